import JvmDerived
import JvmDerived.Pilot.@@N@@Statement
import JvmDerived.Pilot.@@N@@Code
set_option linter.unusedVariables false
set_option linter.unusedSimpArgs false
namespace Jvm.RoadKit
open Sem ClassFile Op Lib Jvm.Stand Jvm.Free Jvm.LawKit
section New
variable {p : Program} {l : Launch} {e : Env} {R : Room} {s : State} {m : MethodId} {args : Array Value} {below : List Frame} {meth : Method} {c : Code} {T : State} {locs : List Loc} {cells slots : Nat}
theorem retI (X : Stand p l e R s m args below meth c T locs cells slots) (hx : p.tables.exec = Jvm.exec) {pc : Nat} {Ls : Array Slot} {z : Int32} {rest : List Value} (hret : meth.sig.returnType = some .int) (hd : decode c.code pc = .ok (.ireturn, 1)) {fs : List Frame}
    (hl : ∀ (f : JFrame) (acts : List Action), f.method = m → f.locked = none → f.entered = [] → (doReturn e (T.setTop f) acts (some (.int z))).1 = T.setFrames fs) : Steps p.tables e below (T.setTop (mkF m pc Ls (.int z :: rest))) (T.setFrames fs) := by
  have hm' : T.vm.method? m = some meth := X.method'
  have hn : narrow .int (.int z) = .int z := rfl
  show Steps p.tables e below (T.setTop { method := m, pc := pc, locals := Ls, stack := _ :: rest, locked := none }) _
  jvm_step X.here [X.here.top, hx, hd, hm', hret, hn]
  first | (intro acts; rw [hl _ acts rfl rfl rfl]) | rw [hl _ _ rfl rfl rfl]
  exact Steps.refl _
end New
end Jvm.RoadKit
namespace Jvm.Pilot.@@N@@
open Jvm Jvm.ClassFile Sem Op Lib Jvm.Free Jvm.Stand Jvm.LawKit Jvm.RoadKit Bundle Jvm.Pilot.@@N@@.Jvm.D
/-! small facts of my own -/
theorem own_fld {args : Array Value} {s : State} {t : Term} {a : Addr} {C n d : String} {k : Int32} (ev : t.eval args s none [] s = some (.ref a)) (h : (Jvm.Cond.eq (.field t C n d) (.int k)).value args s none s [] = some true) : Fld s s.heap a C n d (.int k) := by
  refine Fld.start ?_
  have h2 : (Term.field t C n d).eval args s none [] s = s.fieldOf? a C n d := by simp [Term.eval, ev]
  obtain ⟨x, y, e1, e2, k1, k2⟩ := cmp_v (Or.inl h)
  have e3 : y = .int k := (Option.some.inj e2).symm
  subst e3
  obtain ⟨z, rfl⟩ := k2
  have e4 : z = k := by simpa [Jvm.Cond.value, e1, e2] using h
  rw [← h2, e1, e4]
theorem own_leT {k : Nat} {T : State} {h : Heap} (e : T.heap = h) (hk : k ≤ h.size) : k ≤ T.heap.size := by rw [e]; exact hk
theorem own_lcmp0 {x : Int64} : lcmpW x x = 0 := (lw_eq x x).mpr rfl
theorem own_lt {x j k : Int32} (h : x < j) (q : ¬ k < j) : x < k := by rw [Int32.lt_iff_toInt_lt] at *; omega
theorem own_gt {x j k : Int32} (h : j < x) (q : ¬ j < k) : k < x := by rw [Int32.lt_iff_toInt_lt] at *; omega
theorem own_nlt {x j k : Int32} (h : j < x) (q : ¬ j.toInt + 1 < k.toInt) : ¬ x < k := by rw [Int32.lt_iff_toInt_lt] at *; omega
theorem own_ngt {x j k : Int32} (h : x < j) (q : ¬ k.toInt + 1 < j.toInt) : ¬ k < x := by rw [Int32.lt_iff_toInt_lt] at *; omega
theorem own_nelo {x j k : Int32} (h : j < x) (q : ¬ j < k) : ¬ x = k := fun e => by subst e; exact q h
theorem own_nehi {x j k : Int32} (h : x < j) (q : ¬ k < j) : ¬ x = k := fun e => by subst e; exact q h
theorem own_ilt {x k : Int32} {z : Int} (e : k.toInt = z) (h : x.toInt < z) : x < k := by rw [Int32.lt_iff_toInt_lt, e]; exact h
theorem own_igt {x k : Int32} {z : Int} (e : k.toInt = z) (h : z < x.toInt) : k < x := by rw [Int32.lt_iff_toInt_lt, e]; exact h
theorem own_ne {Z : State} {h : Heap} {a b : Addr} {C n d : String} {v w : Value} (F : Fld Z h a C n d v) (G : Fld Z h b C n d w) (hn : v ≠ w) : ¬ (a = b) := fun e => by
  subst e
  obtain ⟨c1, f1, k1, i1, g1, h1, h2, -, -, -, -, h7⟩ := F
  obtain ⟨c2, f2, k2, i2, g2, j1, j2, -, -, -, -, j7⟩ := G
  cases h1.symm.trans j1
  cases h2.symm.trans j2
  exact hn (Option.some.inj (h7.symm.trans j7))

theorem d1_0 : decode prog_28_method_5_code 0 = .ok (.aload_n 0, 1) := by decide +kernel
theorem d1_1 : decode prog_28_method_5_code 1 = .ok (.invokevirtual 45, 3) := by decide +kernel
theorem d2_0 : decode jdk_37_method_2_code 0 = .ok (.aload_n 0, 1) := by decide +kernel
theorem d2_1 : decode jdk_37_method_2_code 1 = .ok (.getfield 7, 3) := by decide +kernel
theorem d2_4 : decode jdk_37_method_2_code 4 = .ok (.ireturn, 1) := by decide +kernel
theorem pn_2 : plainName "java/lang/Enum" = true := by first | (simp [plainName, overriddenIn]; done) | decide +kernel
theorem pd___I : parseMethodDescriptor "()I" = some ⟨[], some .int⟩ := by decide +kernel
theorem d1_4 : decode prog_28_method_5_code 4 = .ok (.tableswitch 40 0 5 #[50, 62, 74, 91, 108, 139], 40) := by decide +kernel
theorem d1_54 : decode prog_28_method_5_code 54 = .ok (.iload_n 1, 1) := by decide +kernel
theorem d1_55 : decode prog_28_method_5_code 55 = .ok (.ifCond .ne 7, 3) := by decide +kernel
theorem d1_58 : decode prog_28_method_5_code 58 = .ok (.iconst 1, 1) := by decide +kernel
theorem d1_59 : decode prog_28_method_5_code 59 = .ok (.goto 112, 3) := by decide +kernel
theorem d1_171 : decode prog_28_method_5_code 171 = .ok (.ireturn, 1) := by decide +kernel
theorem pn_1 : plainName "com/example/termwell/termwell/core/text/RegexNode$Anchor" = true := by first | (simp [plainName, overriddenIn]; done) | decide +kernel
theorem pd__II_Z : parseMethodDescriptor "(II)Z" = some ⟨[.int, .int], some .boolean⟩ := by decide +kernel
theorem pn_0 : plainName "com/example/termwell/termwell/core/text/AnchorHoldsPinLaw" = true := by first | (simp [plainName, overriddenIn]; done) | decide +kernel
theorem d1_62 : decode prog_28_method_5_code 62 = .ok (.iconst 0, 1) := by decide +kernel
theorem d1_63 : decode prog_28_method_5_code 63 = .ok (.goto 108, 3) := by decide +kernel
theorem d1_66 : decode prog_28_method_5_code 66 = .ok (.iload_n 2, 1) := by decide +kernel
theorem d1_67 : decode prog_28_method_5_code 67 = .ok (.ifCond .ne 7, 3) := by decide +kernel
theorem d1_70 : decode prog_28_method_5_code 70 = .ok (.iconst 1, 1) := by decide +kernel
theorem d1_71 : decode prog_28_method_5_code 71 = .ok (.goto 100, 3) := by decide +kernel
theorem d1_74 : decode prog_28_method_5_code 74 = .ok (.iconst 0, 1) := by decide +kernel
theorem d1_75 : decode prog_28_method_5_code 75 = .ok (.goto 96, 3) := by decide +kernel
theorem d1_78 : decode prog_28_method_5_code 78 = .ok (.iload_n 1, 1) := by decide +kernel
theorem d1_79 : decode prog_28_method_5_code 79 = .ok (.ifCond .eq 8, 3) := by decide +kernel
theorem d1_87 : decode prog_28_method_5_code 87 = .ok (.iconst 1, 1) := by decide +kernel
theorem d1_88 : decode prog_28_method_5_code 88 = .ok (.goto 83, 3) := by decide +kernel
theorem d1_82 : decode prog_28_method_5_code 82 = .ok (.iload_n 1, 1) := by decide +kernel
theorem d1_83 : decode prog_28_method_5_code 83 = .ok (.iconst 1, 1) := by decide +kernel
theorem d1_84 : decode prog_28_method_5_code 84 = .ok (.if_icmp .ne 7, 3) := by decide +kernel
theorem d1_91 : decode prog_28_method_5_code 91 = .ok (.iconst 0, 1) := by decide +kernel
theorem d1_92 : decode prog_28_method_5_code 92 = .ok (.goto 79, 3) := by decide +kernel
theorem d1_95 : decode prog_28_method_5_code 95 = .ok (.iload_n 2, 1) := by decide +kernel
theorem d1_96 : decode prog_28_method_5_code 96 = .ok (.ifCond .eq 8, 3) := by decide +kernel
theorem d1_104 : decode prog_28_method_5_code 104 = .ok (.iconst 1, 1) := by decide +kernel
theorem d1_105 : decode prog_28_method_5_code 105 = .ok (.goto 66, 3) := by decide +kernel
theorem d1_99 : decode prog_28_method_5_code 99 = .ok (.iload_n 2, 1) := by decide +kernel
theorem d1_100 : decode prog_28_method_5_code 100 = .ok (.iconst 1, 1) := by decide +kernel
theorem d1_101 : decode prog_28_method_5_code 101 = .ok (.if_icmp .ne 7, 3) := by decide +kernel
theorem d1_108 : decode prog_28_method_5_code 108 = .ok (.iconst 0, 1) := by decide +kernel
theorem d1_109 : decode prog_28_method_5_code 109 = .ok (.goto 62, 3) := by decide +kernel
theorem d1_112 : decode prog_28_method_5_code 112 = .ok (.iload_n 1, 1) := by decide +kernel
theorem d1_113 : decode prog_28_method_5_code 113 = .ok (.iconst 2, 1) := by decide +kernel
theorem d1_114 : decode prog_28_method_5_code 114 = .ok (.if_icmp .ne 7, 3) := by decide +kernel
theorem d1_117 : decode prog_28_method_5_code 117 = .ok (.iconst 1, 1) := by decide +kernel
theorem d1_118 : decode prog_28_method_5_code 118 = .ok (.goto 4, 3) := by decide +kernel
theorem d1_122 : decode prog_28_method_5_code 122 = .ok (.iload_n 2, 1) := by decide +kernel
theorem d1_123 : decode prog_28_method_5_code 123 = .ok (.iconst 2, 1) := by decide +kernel
theorem d1_124 : decode prog_28_method_5_code 124 = .ok (.if_icmp .ne 7, 3) := by decide +kernel
theorem d1_127 : decode prog_28_method_5_code 127 = .ok (.iconst 1, 1) := by decide +kernel
theorem d1_128 : decode prog_28_method_5_code 128 = .ok (.goto 4, 3) := by decide +kernel
theorem d1_132 : decode prog_28_method_5_code 132 = .ok (.if_icmp .eq 7, 3) := by decide +kernel
theorem d1_139 : decode prog_28_method_5_code 139 = .ok (.iconst 0, 1) := by decide +kernel
theorem d1_140 : decode prog_28_method_5_code 140 = .ok (.goto 31, 3) := by decide +kernel
theorem d1_131 : decode prog_28_method_5_code 131 = .ok (.iconst 0, 1) := by decide +kernel
theorem d1_135 : decode prog_28_method_5_code 135 = .ok (.iconst 1, 1) := by decide +kernel
theorem d1_136 : decode prog_28_method_5_code 136 = .ok (.goto 35, 3) := by decide +kernel
theorem d1_121 : decode prog_28_method_5_code 121 = .ok (.iconst 0, 1) := by decide +kernel
theorem d1_143 : decode prog_28_method_5_code 143 = .ok (.iload_n 1, 1) := by decide +kernel
theorem d1_144 : decode prog_28_method_5_code 144 = .ok (.iconst 2, 1) := by decide +kernel
theorem d1_145 : decode prog_28_method_5_code 145 = .ok (.if_icmp .ne 7, 3) := by decide +kernel
theorem d1_148 : decode prog_28_method_5_code 148 = .ok (.iconst 1, 1) := by decide +kernel
theorem d1_149 : decode prog_28_method_5_code 149 = .ok (.goto 4, 3) := by decide +kernel
theorem d1_153 : decode prog_28_method_5_code 153 = .ok (.iload_n 2, 1) := by decide +kernel
theorem d1_154 : decode prog_28_method_5_code 154 = .ok (.iconst 2, 1) := by decide +kernel
theorem d1_155 : decode prog_28_method_5_code 155 = .ok (.if_icmp .ne 7, 3) := by decide +kernel
theorem d1_158 : decode prog_28_method_5_code 158 = .ok (.iconst 1, 1) := by decide +kernel
theorem d1_159 : decode prog_28_method_5_code 159 = .ok (.goto 4, 3) := by decide +kernel
theorem d1_163 : decode prog_28_method_5_code 163 = .ok (.if_icmp .ne 7, 3) := by decide +kernel
theorem d1_166 : decode prog_28_method_5_code 166 = .ok (.iconst 1, 1) := by decide +kernel
theorem d1_167 : decode prog_28_method_5_code 167 = .ok (.goto 4, 3) := by decide +kernel
theorem d1_162 : decode prog_28_method_5_code 162 = .ok (.iconst 0, 1) := by decide +kernel
theorem d1_170 : decode prog_28_method_5_code 170 = .ok (.iconst 0, 1) := by decide +kernel
theorem d1_152 : decode prog_28_method_5_code 152 = .ok (.iconst 0, 1) := by decide +kernel
theorem own_split4 {x : Int32} (h0 : 0 ≤ x.toInt) (h1 : x.toInt < 4) : x = (0 : Int32) ∨ x = (1 : Int32) ∨ x = (2 : Int32) ∨ x = (3 : Int32) := by
  have h : x.toInt = 0 ∨ x.toInt = 1 ∨ x.toInt = 2 ∨ x.toInt = 3 := by omega
  rcases h with h | h | h | h
  · exact Or.inl (Int32.toInt_inj.mp (h.trans (by decide)))
  · exact Or.inr (Or.inl (Int32.toInt_inj.mp (h.trans (by decide))))
  · exact Or.inr (Or.inr (Or.inl (Int32.toInt_inj.mp (h.trans (by decide)))))
  · exact Or.inr (Or.inr (Or.inr (Int32.toInt_inj.mp (h.trans (by decide)))))
theorem own_split6 {x : Int32} (h0 : 0 ≤ x.toInt) (h1 : x.toInt < 6) : x = (0 : Int32) ∨ x = (1 : Int32) ∨ x = (2 : Int32) ∨ x = (3 : Int32) ∨ x = (4 : Int32) ∨ x = (5 : Int32) := by
  have h : x.toInt = 0 ∨ x.toInt = 1 ∨ x.toInt = 2 ∨ x.toInt = 3 ∨ x.toInt = 4 ∨ x.toInt = 5 := by omega
  rcases h with h | h | h | h | h | h
  · exact Or.inl (Int32.toInt_inj.mp (h.trans (by decide)))
  · exact Or.inr (Or.inl (Int32.toInt_inj.mp (h.trans (by decide))))
  · exact Or.inr (Or.inr (Or.inl (Int32.toInt_inj.mp (h.trans (by decide)))))
  · exact Or.inr (Or.inr (Or.inr (Or.inl (Int32.toInt_inj.mp (h.trans (by decide))))))
  · exact Or.inr (Or.inr (Or.inr (Or.inr (Or.inl (Int32.toInt_inj.mp (h.trans (by decide)))))))
  · exact Or.inr (Or.inr (Or.inr (Or.inr (Or.inr (Int32.toInt_inj.mp (h.trans (by decide)))))))
def Q2_w_TEXT_START (Z : State) (w_TEXT_START : Addr) (h0 : Heap) (n0 : Nat) (v : Option Value) (h : Heap) (L : List Loc) : Prop := v = some (.int 0) ∧ Fr n0 L ∧ h = h0
set_option maxRecDepth 65536 in
set_option maxHeartbeats 40000000 in
theorem rm2_w_TEXT_START (l : Launch) (Z : State) (a0 : Array Value) (hw : ∀ d ∈ tables_1, d.before a0 Z = true) (ws : List Jvm.Cond) (w_TEXT_START : Addr) (h0 : Heap) (n0 : Nat) (Z0 : n0 ≤ h0.size) (F_ordinal_w_TEXT_START : Fld Z h0 w_TEXT_START "java/lang/Enum" "ordinal" "I" (.int 0)) :
    MetFree l (⟨"java/lang/Enum", "ordinal", "()I"⟩ : MethodName) (head1 (Jvm.Cond.code (⟨"java/lang/Enum", "ordinal", "()I"⟩ : MethodName) jdk_37_method_2_code 1 (some .int) :: ws) ({ frames := 0, cells := 0, slots := 0, locals := 0 } : Room)) (fun a U => a = #[(.ref w_TEXT_START)] ∧ Z.Warmed39 U.vm ∧ U.heap = h0) (fun _ _ _ _ _ => True) (fun _ U o U' => ∃ v L, o = .returned v ∧ Q2_w_TEXT_START Z w_TEXT_START h0 n0 v U'.heap L ∧ FrameEnd U o U' L ({ frames := 0, cells := 0, slots := 0, locals := 0 } : Room).cells ({ frames := 0, cells := 0, slots := 0, locals := 0 } : Room).slots) := by
  refine MetFree.of_bodySF (plainFor_of_name pn_2) hisR ?_
  intro p e s m args below meth c s₁ Bd hml0 hP hK
  obtain ⟨rfl, hZ, hh⟩ := hP
  have hx := Bd.exec
  have hby := Bd.bytes
  have hml : c.maxLocals = 1 := hml0
  have hown : s.vm.findClass "java/lang/Enum" = some m.cls := findClass_of_methodNamed Bd.named
  have hnm := (name_of_methodNamed Bd.named Bd.method).1
  have X0 : Stand p l e ({ frames := 0, cells := 0, slots := 0, locals := 0 } : Room) s m #[(.ref w_TEXT_START)] below meth c s₁ [] 0 0 := Stand.of_body Bd
  have e0 : s₁.heap = h0 := by rw [← hh, Bd.state]; rfl
  have N0 := Fr.nil n0
  have pre0 : ∀ t, Steps p.tables e below (s₁.setTop (mkF m 0 #[.val (.ref w_TEXT_START)] [])) t → Steps p.tables e below (s₁.setTop (entryFrame m #[(.ref w_TEXT_START)] 1)) t := fun t k => castTop (by first | (simp [entryFrame, mkF, argsToLocals, Value.category]; done) | rfl) k
  obtain ⟨T1, X1, e1, st1⟩ := getF X0 hx hZ hown (host := "") (Or.inl (hw _ (List.mem_of_getElem? (i := 16) rfl))) Via.refl e0 F_ordinal_w_TEXT_START (g := (mkF m 1 #[.val (.ref w_TEXT_START)] [(.ref w_TEXT_START)])) rfl rfl (hb hby d2_1)
  obtain ⟨fs, hr, hrun, hended, hW, hsame⟩ := X1.leave (v := some (.int 0)) (fun h => by rw [Bd.returns] at h; cases h)
  refine ⟨_, _, pre0 _ ?_, hrun, hended, _, _, rfl, ?_, ⟨_, rfl⟩, hW, hsame.mono (by decide) (by decide)⟩
  · show Steps p.tables e below (s₁.setTop (mkF m 0 #[.val (.ref w_TEXT_START)] [])) _
    refine XS.aloadN X0.here hx rfl (hb hby d2_0) rfl rfl ?_
    show Steps p.tables e below (s₁.setTop (mkF m 1 #[.val (.ref w_TEXT_START)] [(.ref w_TEXT_START)])) _
    refine st1 _ ?_
    show Steps p.tables e below (T1.setTop (mkF m 4 #[.val (.ref w_TEXT_START)] [(.int 0)])) _
    exact retI X1 hx Bd.returns (hb hby d2_4) hr
  · show Q2_w_TEXT_START Z w_TEXT_START h0 n0 _ T1.heap _
    rw [e1]
    exact ⟨rfl, N0, rfl⟩
def Q1_w_TEXT_START_vb_va_rf (Z : State) (w_TEXT_START : Addr) (vb : Int32) (va : Int32) (h0 : Heap) (n0 : Nat) (v : Option Value) (h : Heap) (L : List Loc) : Prop := v = some (.int 1) ∧ Fr n0 L ∧ h = h0
set_option maxRecDepth 65536 in
set_option maxHeartbeats 40000000 in
theorem rm1_w_TEXT_START_vb_va_rf (l : Launch) (Z : State) (a0 : Array Value) (hw : ∀ d ∈ tables_1, d.before a0 Z = true) (ws : List Jvm.Cond) (w_TEXT_START : Addr) (vb : Int32) (va : Int32) (h0 : Heap) (n0 : Nat) (Z0 : n0 ≤ h0.size) (F_ordinal_w_TEXT_START : Fld Z h0 w_TEXT_START "java/lang/Enum" "ordinal" "I" (.int 0)) (E_w_TEXT_START : Exa Z h0 w_TEXT_START "com/example/termwell/termwell/core/text/RegexNode$Anchor") (hc55 : vb = (0 : Int32)) :
    MetFree l (⟨"com/example/termwell/termwell/core/text/RegexNode$Anchor", "holds", "(II)Z"⟩ : MethodName) (head1 (Jvm.Cond.code (⟨"com/example/termwell/termwell/core/text/RegexNode$Anchor", "holds", "(II)Z"⟩ : MethodName) prog_28_method_5_code 3 (some .boolean) :: ws) ({ frames := 1, cells := 0, slots := 0, locals := 12 } : Room)) (fun a U => a = #[(.ref w_TEXT_START), (.int vb), (.int va)] ∧ Z.Warmed39 U.vm ∧ U.heap = h0) (fun _ _ _ _ _ => True) (fun _ U o U' => ∃ v L, o = .returned v ∧ Q1_w_TEXT_START_vb_va_rf Z w_TEXT_START vb va h0 n0 v U'.heap L ∧ FrameEnd U o U' L ({ frames := 1, cells := 0, slots := 0, locals := 12 } : Room).cells ({ frames := 1, cells := 0, slots := 0, locals := 12 } : Room).slots) := by
  refine MetFree.of_bodySF (plainFor_of_name pn_1) hisR ?_
  intro p e s m args below meth c s₁ Bd hml0 hP hK
  obtain ⟨rfl, hZ, hh⟩ := hP
  have hx := Bd.exec
  have hby := Bd.bytes
  have hml : c.maxLocals = 3 := hml0
  have hown : s.vm.findClass "com/example/termwell/termwell/core/text/RegexNode$Anchor" = some m.cls := findClass_of_methodNamed Bd.named
  have hnm := (name_of_methodNamed Bd.named Bd.method).1
  have X0 : Stand p l e ({ frames := 1, cells := 0, slots := 0, locals := 12 } : Room) s m #[(.ref w_TEXT_START), (.int vb), (.int va)] below meth c s₁ [] 0 0 := Stand.of_body Bd
  have e0 : s₁.heap = h0 := by rw [← hh, Bd.state]; rfl
  have N0 := Fr.nil n0
  have pre0 : ∀ t, Steps p.tables e below (s₁.setTop (mkF m 0 #[.val (.ref w_TEXT_START), .val (.int vb), .val (.int va)] [])) t → Steps p.tables e below (s₁.setTop (entryFrame m #[(.ref w_TEXT_START), (.int vb), (.int va)] 3)) t := fun t k => castTop (by first | (simp [entryFrame, mkF, argsToLocals, Value.category]; done) | rfl) k
  obtain ⟨cq1, kq1, q1a, q1b, q1c⟩ := isOf hZ e0 E_w_TEXT_START
  obtain ⟨_, _, ⟨T1, L1, k1, n1⟩, -, X1, ⟨Lc1, hQ1, l1, y1, z1⟩, st1⟩ := X0.virtualBackUp hx (x := (⟨"com/example/termwell/termwell/core/text/RegexNode$Anchor", "ordinal", "()I"⟩ : MethodName)) (y := (⟨"java/lang/Enum", "ordinal", "()I"⟩ : MethodName)) (owner := "java/lang/Enum") hown (mvT hZ (hw _ (List.mem_of_getElem? (i := 9) rfl))) (mvT hZ (hw _ (List.mem_of_getElem? (i := 10) rfl))) (mvT hZ (hw _ (List.mem_of_getElem? (i := 11) rfl))) (by decide) (mvT hZ (hw _ (List.mem_of_getElem? (i := 13) rfl))) (mvT hZ (hw _ (List.mem_of_getElem? (i := 12) rfl))) (backOf (W := 0) (rm2_w_TEXT_START l Z a0 hw [] w_TEXT_START h0 n0 Z0 F_ordinal_w_TEXT_START) hZ (hw _ (List.mem_of_getElem? (i := 15) rfl)) (hw _ (List.mem_of_getElem? (i := 14) rfl)) (by decide) (by decide)) q1a q1c (g := (mkF m 1 #[.val (.ref w_TEXT_START), .val (.int vb), .val (.int va)] [(.ref w_TEXT_START)])) rfl (by rw [hml]; rfl) (Steps.refl _) (argsL := []) (rest := []) (lenOf pd___I rfl) rfl (by show 2 * 0 + _ ≤ _; exact Nat.le_of_eq rfl) (hb hby d1_1) (fun _ _ => ⟨rfl, e0, (by decide : 0 + 0 ≤ _), (by decide : 0 + 0 ≤ _)⟩)
  dsimp only [Pt.U, Pt.locs, Pt.cells, Pt.slots] at X1 l1 y1 z1 st1 hQ1
  subst l1 y1 z1
  obtain ⟨rfl, N1q, e1⟩ := hQ1
  have N1 := Fr.app N0 N1q
  obtain ⟨fs, hr, hrun, hended, hW, hsame⟩ := X1.leave (v := some (.int 1)) (fun h => by rw [Bd.returns] at h; cases h)
  refine ⟨_, _, pre0 _ ?_, hrun, hended, _, _, rfl, ?_, ⟨_, rfl⟩, hW, hsame.mono (by decide) (by decide)⟩
  · show Steps p.tables e below (s₁.setTop (mkF m 0 #[.val (.ref w_TEXT_START), .val (.int vb), .val (.int va)] [])) _
    refine XS.aloadN X0.here hx rfl (hb hby d1_0) rfl rfl ?_
    show Steps p.tables e below (s₁.setTop (mkF m 1 #[.val (.ref w_TEXT_START), .val (.int vb), .val (.int va)] [(.ref w_TEXT_START)])) _
    refine st1.trans ?_
    show Steps p.tables e below (T1.setTop (mkF m 4 #[.val (.ref w_TEXT_START), .val (.int vb), .val (.int va)] [(.int 0)])) _
    refine XS.tswIn X1.here hx rfl (pc0 := 4) (pc' := 54) rfl (hb hby d1_4) rfl (by decide) (o := 50) (by decide) (by decide) (by decide) ?_
    show Steps p.tables e below (T1.setTop (mkF m 54 #[.val (.ref w_TEXT_START), .val (.int vb), .val (.int va)] [])) _
    refine XS.iloadN X1.here hx rfl (hb hby d1_54) rfl ?_
    show Steps p.tables e below (T1.setTop (mkF m 55 #[.val (.ref w_TEXT_START), .val (.int vb), .val (.int va)] [(.int vb)])) _
    refine XS.ifNo X1.here hx rfl (hb hby d1_55) rfl ((if0 _ _).trans (teq hc55).2) ?_
    show Steps p.tables e below (T1.setTop (mkF m 58 #[.val (.ref w_TEXT_START), .val (.int vb), .val (.int va)] [])) _
    refine XS.iconst X1.here hx rfl (hb hby d1_58) ?_
    show Steps p.tables e below (T1.setTop (mkF m 59 #[.val (.ref w_TEXT_START), .val (.int vb), .val (.int va)] [(.int 1)])) _
    refine XS.goto X1.here hx rfl (pc0 := 59) (pc' := 171) rfl (hb hby d1_59) (by decide) (by decide) ?_
    show Steps p.tables e below (T1.setTop (mkF m 171 #[.val (.ref w_TEXT_START), .val (.int vb), .val (.int va)] [(.int 1)])) _
    exact retN X1 hx (t := .boolean) Bd.returns (by simp) (hb hby d1_171) hr
  · show Q1_w_TEXT_START_vb_va_rf Z w_TEXT_START vb va h0 n0 _ T1.heap _
    rw [e1]
    exact ⟨rfl, N1, rfl⟩
def Q0_k0f (Z : State) (p1 : Int32) (p2 : Int32) (p3 : Int32) (vb : Int32) (va : Int32) (w_TEXT_START : Addr) (h0 : Heap) (n0 : Nat) (v : Option Value) (h : Heap) (L : List Loc) : Prop := v = some (.int 1) ∧ Fr n0 L ∧ h = h0
set_option maxRecDepth 65536 in
set_option maxHeartbeats 40000000 in
theorem rm0_k0f (l : Launch) (Z : State) (a0 : Array Value) (hw : ∀ d ∈ tables_1, d.before a0 Z = true) (ws : List Jvm.Cond) (p1 : Int32) (p2 : Int32) (p3 : Int32) (vb : Int32) (va : Int32) (w_TEXT_START : Addr) (h0 : Heap) (n0 : Nat) (Z0 : n0 ≤ h0.size) (hk : ((p1 &&& (2147483647 : Int32)) % (6 : Int32)) = (0 : Int32)) (hvb : (p2 &&& (3 : Int32)) = vb) (hva : (p3 &&& (3 : Int32)) = va) (S_TEXT_START : Sta Z h0 "com/example/termwell/termwell/core/text/RegexNode$Anchor" "TEXT_START" "Lcom/example/termwell/termwell/core/text/RegexNode$Anchor;" (.ref w_TEXT_START)) (he : ((((15 : Int32).toUInt32 >>> (((vb * (4 : Int32)) + va) &&& 31).toUInt32).toInt32) &&& (1 : Int32)) = (1 : Int32)) (F_ordinal_w_TEXT_START : Fld Z h0 w_TEXT_START "java/lang/Enum" "ordinal" "I" (.int 0)) (E_w_TEXT_START : Exa Z h0 w_TEXT_START "com/example/termwell/termwell/core/text/RegexNode$Anchor") (hc55 : vb = (0 : Int32)) :
    MetFree l x (head1 (Jvm.Cond.code x code maxLocals ret :: ws) room_1) (fun a U => a = #[(.int p1), (.int p2), (.int p3)] ∧ Z.Warmed39 U.vm ∧ U.heap = h0) (fun _ _ _ _ _ => True) (fun _ U o U' => ∃ v L, o = .returned v ∧ Q0_k0f Z p1 p2 p3 vb va w_TEXT_START h0 n0 v U'.heap L ∧ FrameEnd U o U' L room_1.cells room_1.slots) := by
  refine MetFree.of_bodySF (plainFor_of_name pn_0) hisR ?_
  intro p e s m args below meth c s₁ Bd hml0 hP hK
  obtain ⟨rfl, hZ, hh⟩ := hP
  have hx := Bd.exec
  have hby := Bd.bytes
  have hml : c.maxLocals = 9 := hml0
  have hown : s.vm.findClass "com/example/termwell/termwell/core/text/AnchorHoldsPinLaw" = some m.cls := findClass_of_methodNamed Bd.named
  have hnm := (name_of_methodNamed Bd.named Bd.method).1
  have X0 : Stand p l e room_1 s m #[(.int p1), (.int p2), (.int p3)] below meth c s₁ [] 0 0 := Stand.of_body Bd
  have e0 : s₁.heap = h0 := by rw [← hh, Bd.state]; rfl
  have N0 := Fr.nil n0
  have pre0 : ∀ t, Steps p.tables e below (s₁.setTop (mkF m 0 #[.val (.int p1), .val (.int p2), .val (.int p3), .unset, .unset, .unset, .unset, .unset, .unset] [])) t → Steps p.tables e below (s₁.setTop (entryFrame m #[(.int p1), (.int p2), (.int p3)] maxLocals)) t := fun t k => castTop (by first | (simp [entryFrame, mkF, argsToLocals, Value.category, maxLocals]; done) | rfl) k
  obtain ⟨T1, X1, e1, st1⟩ := getS2 X0 hx hZ hown (host := "") (Or.inl (hw _ (List.mem_of_getElem? (i := 1) rfl))) Via.refl e0 S_TEXT_START (g := (mkF m 22 #[.val (.int p1), .val (.int p2), .val (.int p3), .val (.int 0), .val (.int vb), .val (.int va), .unset, .unset, .unset] [])) rfl (hb hby at_22)
  obtain ⟨cq2, kq2, q2a, q2b, q2c⟩ := isOf hZ e1 E_w_TEXT_START
  obtain ⟨_, _, ⟨T2, L2, k2, n2⟩, -, X2, ⟨Lc2, hQ2, l2, y2, z2⟩, st2⟩ := X1.virtualBack hx (y := (⟨"com/example/termwell/termwell/core/text/RegexNode$Anchor", "holds", "(II)Z"⟩ : MethodName)) (z := (⟨"com/example/termwell/termwell/core/text/RegexNode$Anchor", "holds", "(II)Z"⟩ : MethodName)) hown (mvT hZ (hw _ (List.mem_of_getElem? (i := 4) rfl))) (mvT hZ (hw _ (List.mem_of_getElem? (i := 5) rfl))) (notFace_of_selects (args := #[]) (mvT hZ (hw _ (List.mem_of_getElem? (i := 7) rfl)))) (mvT hZ (hw _ (List.mem_of_getElem? (i := 7) rfl))) (mvT hZ (hw _ (List.mem_of_getElem? (i := 6) rfl))) (by decide) (backOf (W := 0) (rm1_w_TEXT_START_vb_va_rf l Z a0 hw [] w_TEXT_START vb va h0 n0 Z0 F_ordinal_w_TEXT_START E_w_TEXT_START hc55) hZ (hw _ (List.mem_of_getElem? (i := 8) rfl)) (hw _ (List.mem_of_getElem? (i := 2) rfl)) (by decide) (by decide)) q2a q2c (g := (mkF m 143 #[.val (.int p1), .val (.int p2), .val (.int p3), .val (.int 0), .val (.int vb), .val (.int va), .val (.ref w_TEXT_START), .val (.int 15), .val (.int 1)] [(.int va), (.int vb), (.ref w_TEXT_START)])) rfl (by rw [hml]; rfl) (Steps.refl _) (argsL := [(.int vb), (.int va)]) (rest := []) (lenOf pd__II_Z rfl) rfl (by show 2 * 0 + _ ≤ _; exact Nat.le_of_eq rfl) (hb hby at_143) (fun _ _ => ⟨rfl, e1, (by decide : 0 + 0 ≤ _), (by decide : 0 + 0 ≤ _)⟩)
  dsimp only [Pt.U, Pt.locs, Pt.cells, Pt.slots] at X2 l2 y2 z2 st2 hQ2
  subst l2 y2 z2
  obtain ⟨rfl, N2q, e2⟩ := hQ2
  have N2 := Fr.app N0 N2q
  obtain ⟨fs, hr, hrun, hended, hW, hsame⟩ := X2.leave (v := some (.int 1)) (fun h => by rw [Bd.returns] at h; cases h)
  refine ⟨_, _, pre0 _ ?_, hrun, hended, _, _, rfl, ?_, ⟨_, rfl⟩, hW, hsame.mono (by decide) (by decide)⟩
  · show Steps p.tables e below (s₁.setTop (mkF m 0 #[.val (.int p1), .val (.int p2), .val (.int p3), .unset, .unset, .unset, .unset, .unset, .unset] [])) _
    refine XS.iloadN X0.here hx rfl (hb hby at_0) rfl ?_
    show Steps p.tables e below (s₁.setTop (mkF m 1 #[.val (.int p1), .val (.int p2), .val (.int p3), .unset, .unset, .unset, .unset, .unset, .unset] [(.int p1)])) _
    refine X0.ldcInt hx hown (mvT hZ (hw _ (List.mem_of_getElem? (i := 0) rfl))) (g := (mkF m 1 #[.val (.int p1), .val (.int p2), .val (.int p3), .unset, .unset, .unset, .unset, .unset, .unset] [(.int p1)])) rfl (hb hby at_1) _ ?_
    show Steps p.tables e below (s₁.setTop (mkF m 3 #[.val (.int p1), .val (.int p2), .val (.int p3), .unset, .unset, .unset, .unset, .unset, .unset] [(.int 2147483647), (.int p1)])) _
    refine XS.iand X0.here hx rfl (hb hby at_3) rfl ?_
    show Steps p.tables e below (s₁.setTop (mkF m 4 #[.val (.int p1), .val (.int p2), .val (.int p3), .unset, .unset, .unset, .unset, .unset, .unset] [(.int (p1 &&& (2147483647 : Int32)))])) _
    refine XS.bipush X0.here hx rfl (hb hby at_4) ?_
    show Steps p.tables e below (s₁.setTop (mkF m 6 #[.val (.int p1), .val (.int p2), .val (.int p3), .unset, .unset, .unset, .unset, .unset, .unset] [(.int 6), (.int (p1 &&& (2147483647 : Int32)))])) _
    refine iremM X0 hx rfl (hb hby at_6) rfl (by decide) ?_
    show Steps p.tables e below (s₁.setTop (mkF m 7 #[.val (.int p1), .val (.int p2), .val (.int p3), .unset, .unset, .unset, .unset, .unset, .unset] [(.int ((p1 &&& (2147483647 : Int32)) % (6 : Int32)))])) _
    rw [hk]
    show Steps p.tables e below (s₁.setTop (mkF m 7 #[.val (.int p1), .val (.int p2), .val (.int p3), .unset, .unset, .unset, .unset, .unset, .unset] [(.int 0)])) _
    refine XS.istoreN X0.here hx rfl (hb hby at_7) rfl (l' := #[.val (.int p1), .val (.int p2), .val (.int p3), .val (.int 0), .unset, .unset, .unset, .unset, .unset]) rfl ?_
    show Steps p.tables e below (s₁.setTop (mkF m 8 #[.val (.int p1), .val (.int p2), .val (.int p3), .val (.int 0), .unset, .unset, .unset, .unset, .unset] [])) _
    refine XS.iloadN X0.here hx rfl (hb hby at_8) rfl ?_
    show Steps p.tables e below (s₁.setTop (mkF m 9 #[.val (.int p1), .val (.int p2), .val (.int p3), .val (.int 0), .unset, .unset, .unset, .unset, .unset] [(.int p2)])) _
    refine XS.iconst X0.here hx rfl (hb hby at_9) ?_
    show Steps p.tables e below (s₁.setTop (mkF m 10 #[.val (.int p1), .val (.int p2), .val (.int p3), .val (.int 0), .unset, .unset, .unset, .unset, .unset] [(.int 3), (.int p2)])) _
    refine XS.iand X0.here hx rfl (hb hby at_10) rfl ?_
    show Steps p.tables e below (s₁.setTop (mkF m 11 #[.val (.int p1), .val (.int p2), .val (.int p3), .val (.int 0), .unset, .unset, .unset, .unset, .unset] [(.int (p2 &&& (3 : Int32)))])) _
    rw [hvb]
    show Steps p.tables e below (s₁.setTop (mkF m 11 #[.val (.int p1), .val (.int p2), .val (.int p3), .val (.int 0), .unset, .unset, .unset, .unset, .unset] [(.int vb)])) _
    refine XS.istore X0.here hx rfl (hb hby at_11) rfl (l' := #[.val (.int p1), .val (.int p2), .val (.int p3), .val (.int 0), .val (.int vb), .unset, .unset, .unset, .unset]) rfl ?_
    show Steps p.tables e below (s₁.setTop (mkF m 13 #[.val (.int p1), .val (.int p2), .val (.int p3), .val (.int 0), .val (.int vb), .unset, .unset, .unset, .unset] [])) _
    refine XS.iloadN X0.here hx rfl (hb hby at_13) rfl ?_
    show Steps p.tables e below (s₁.setTop (mkF m 14 #[.val (.int p1), .val (.int p2), .val (.int p3), .val (.int 0), .val (.int vb), .unset, .unset, .unset, .unset] [(.int p3)])) _
    refine XS.iconst X0.here hx rfl (hb hby at_14) ?_
    show Steps p.tables e below (s₁.setTop (mkF m 15 #[.val (.int p1), .val (.int p2), .val (.int p3), .val (.int 0), .val (.int vb), .unset, .unset, .unset, .unset] [(.int 3), (.int p3)])) _
    refine XS.iand X0.here hx rfl (hb hby at_15) rfl ?_
    show Steps p.tables e below (s₁.setTop (mkF m 16 #[.val (.int p1), .val (.int p2), .val (.int p3), .val (.int 0), .val (.int vb), .unset, .unset, .unset, .unset] [(.int (p3 &&& (3 : Int32)))])) _
    rw [hva]
    show Steps p.tables e below (s₁.setTop (mkF m 16 #[.val (.int p1), .val (.int p2), .val (.int p3), .val (.int 0), .val (.int vb), .unset, .unset, .unset, .unset] [(.int va)])) _
    refine XS.istore X0.here hx rfl (hb hby at_16) rfl (l' := #[.val (.int p1), .val (.int p2), .val (.int p3), .val (.int 0), .val (.int vb), .val (.int va), .unset, .unset, .unset]) rfl ?_
    show Steps p.tables e below (s₁.setTop (mkF m 18 #[.val (.int p1), .val (.int p2), .val (.int p3), .val (.int 0), .val (.int vb), .val (.int va), .unset, .unset, .unset] [])) _
    refine XS.iloadN X0.here hx rfl (hb hby at_18) rfl ?_
    show Steps p.tables e below (s₁.setTop (mkF m 19 #[.val (.int p1), .val (.int p2), .val (.int p3), .val (.int 0), .val (.int vb), .val (.int va), .unset, .unset, .unset] [(.int 0)])) _
    refine XS.ifNo X0.here hx rfl (hb hby at_19) rfl ((if0 _ _).trans (teq (by decide : (0 : Int32) = (0 : Int32))).2) ?_
    show Steps p.tables e below (s₁.setTop (mkF m 22 #[.val (.int p1), .val (.int p2), .val (.int p3), .val (.int 0), .val (.int vb), .val (.int va), .unset, .unset, .unset] [])) _
    refine st1 _ ?_
    show Steps p.tables e below (T1.setTop (mkF m 25 #[.val (.int p1), .val (.int p2), .val (.int p3), .val (.int 0), .val (.int vb), .val (.int va), .unset, .unset, .unset] [(.ref w_TEXT_START)])) _
    refine XS.astore X1.here hx rfl (hb hby at_25) rfl rfl (l' := #[.val (.int p1), .val (.int p2), .val (.int p3), .val (.int 0), .val (.int vb), .val (.int va), .val (.ref w_TEXT_START), .unset, .unset]) rfl ?_
    show Steps p.tables e below (T1.setTop (mkF m 27 #[.val (.int p1), .val (.int p2), .val (.int p3), .val (.int 0), .val (.int vb), .val (.int va), .val (.ref w_TEXT_START), .unset, .unset] [])) _
    refine XS.bipush X1.here hx rfl (hb hby at_27) ?_
    show Steps p.tables e below (T1.setTop (mkF m 29 #[.val (.int p1), .val (.int p2), .val (.int p3), .val (.int 0), .val (.int vb), .val (.int va), .val (.ref w_TEXT_START), .unset, .unset] [(.int 15)])) _
    refine XS.istore X1.here hx rfl (hb hby at_29) rfl (l' := #[.val (.int p1), .val (.int p2), .val (.int p3), .val (.int 0), .val (.int vb), .val (.int va), .val (.ref w_TEXT_START), .val (.int 15), .unset]) rfl ?_
    show Steps p.tables e below (T1.setTop (mkF m 31 #[.val (.int p1), .val (.int p2), .val (.int p3), .val (.int 0), .val (.int vb), .val (.int va), .val (.ref w_TEXT_START), .val (.int 15), .unset] [])) _
    refine XS.goto X1.here hx rfl (pc0 := 31) (pc' := 115) rfl (hb hby at_31) (by decide) (by decide) ?_
    show Steps p.tables e below (T1.setTop (mkF m 115 #[.val (.int p1), .val (.int p2), .val (.int p3), .val (.int 0), .val (.int vb), .val (.int va), .val (.ref w_TEXT_START), .val (.int 15), .unset] [])) _
    refine XS.iload X1.here hx rfl (hb hby at_115) rfl ?_
    show Steps p.tables e below (T1.setTop (mkF m 117 #[.val (.int p1), .val (.int p2), .val (.int p3), .val (.int 0), .val (.int vb), .val (.int va), .val (.ref w_TEXT_START), .val (.int 15), .unset] [(.int 15)])) _
    refine XS.iload X1.here hx rfl (hb hby at_117) rfl ?_
    show Steps p.tables e below (T1.setTop (mkF m 119 #[.val (.int p1), .val (.int p2), .val (.int p3), .val (.int 0), .val (.int vb), .val (.int va), .val (.ref w_TEXT_START), .val (.int 15), .unset] [(.int vb), (.int 15)])) _
    refine XS.iconst X1.here hx rfl (hb hby at_119) ?_
    show Steps p.tables e below (T1.setTop (mkF m 120 #[.val (.int p1), .val (.int p2), .val (.int p3), .val (.int 0), .val (.int vb), .val (.int va), .val (.ref w_TEXT_START), .val (.int 15), .unset] [(.int 4), (.int vb), (.int 15)])) _
    refine XS.imul X1.here hx rfl (hb hby at_120) rfl ?_
    show Steps p.tables e below (T1.setTop (mkF m 121 #[.val (.int p1), .val (.int p2), .val (.int p3), .val (.int 0), .val (.int vb), .val (.int va), .val (.ref w_TEXT_START), .val (.int 15), .unset] [(.int (vb * (4 : Int32))), (.int 15)])) _
    refine XS.iload X1.here hx rfl (hb hby at_121) rfl ?_
    show Steps p.tables e below (T1.setTop (mkF m 123 #[.val (.int p1), .val (.int p2), .val (.int p3), .val (.int 0), .val (.int vb), .val (.int va), .val (.ref w_TEXT_START), .val (.int 15), .unset] [(.int va), (.int (vb * (4 : Int32))), (.int 15)])) _
    refine XS.iadd X1.here hx rfl (hb hby at_123) rfl ?_
    show Steps p.tables e below (T1.setTop (mkF m 124 #[.val (.int p1), .val (.int p2), .val (.int p3), .val (.int 0), .val (.int vb), .val (.int va), .val (.ref w_TEXT_START), .val (.int 15), .unset] [(.int ((vb * (4 : Int32)) + va)), (.int 15)])) _
    refine XS.iushr X1.here hx rfl (hb hby at_124) rfl ?_
    show Steps p.tables e below (T1.setTop (mkF m 125 #[.val (.int p1), .val (.int p2), .val (.int p3), .val (.int 0), .val (.int vb), .val (.int va), .val (.ref w_TEXT_START), .val (.int 15), .unset] [(.int (((15 : Int32).toUInt32 >>> (((vb * (4 : Int32)) + va) &&& 31).toUInt32).toInt32))])) _
    refine XS.iconst X1.here hx rfl (hb hby at_125) ?_
    show Steps p.tables e below (T1.setTop (mkF m 126 #[.val (.int p1), .val (.int p2), .val (.int p3), .val (.int 0), .val (.int vb), .val (.int va), .val (.ref w_TEXT_START), .val (.int 15), .unset] [(.int 1), (.int (((15 : Int32).toUInt32 >>> (((vb * (4 : Int32)) + va) &&& 31).toUInt32).toInt32))])) _
    refine XS.iand X1.here hx rfl (hb hby at_126) rfl ?_
    show Steps p.tables e below (T1.setTop (mkF m 127 #[.val (.int p1), .val (.int p2), .val (.int p3), .val (.int 0), .val (.int vb), .val (.int va), .val (.ref w_TEXT_START), .val (.int 15), .unset] [(.int ((((15 : Int32).toUInt32 >>> (((vb * (4 : Int32)) + va) &&& 31).toUInt32).toInt32) &&& (1 : Int32)))])) _
    rw [he]
    show Steps p.tables e below (T1.setTop (mkF m 127 #[.val (.int p1), .val (.int p2), .val (.int p3), .val (.int 0), .val (.int vb), .val (.int va), .val (.ref w_TEXT_START), .val (.int 15), .unset] [(.int 1)])) _
    refine XS.ifNo X1.here hx rfl (hb hby at_127) rfl ((if0 _ _).trans (feq (by decide : ¬ ((1 : Int32) = (0 : Int32)))).1) ?_
    show Steps p.tables e below (T1.setTop (mkF m 130 #[.val (.int p1), .val (.int p2), .val (.int p3), .val (.int 0), .val (.int vb), .val (.int va), .val (.ref w_TEXT_START), .val (.int 15), .unset] [])) _
    refine XS.iconst X1.here hx rfl (hb hby at_130) ?_
    show Steps p.tables e below (T1.setTop (mkF m 131 #[.val (.int p1), .val (.int p2), .val (.int p3), .val (.int 0), .val (.int vb), .val (.int va), .val (.ref w_TEXT_START), .val (.int 15), .unset] [(.int 1)])) _
    refine XS.goto X1.here hx rfl (pc0 := 131) (pc' := 135) rfl (hb hby at_131) (by decide) (by decide) ?_
    show Steps p.tables e below (T1.setTop (mkF m 135 #[.val (.int p1), .val (.int p2), .val (.int p3), .val (.int 0), .val (.int vb), .val (.int va), .val (.ref w_TEXT_START), .val (.int 15), .unset] [(.int 1)])) _
    refine XS.istore X1.here hx rfl (hb hby at_135) rfl (l' := #[.val (.int p1), .val (.int p2), .val (.int p3), .val (.int 0), .val (.int vb), .val (.int va), .val (.ref w_TEXT_START), .val (.int 15), .val (.int 1)]) rfl ?_
    show Steps p.tables e below (T1.setTop (mkF m 137 #[.val (.int p1), .val (.int p2), .val (.int p3), .val (.int 0), .val (.int vb), .val (.int va), .val (.ref w_TEXT_START), .val (.int 15), .val (.int 1)] [])) _
    refine XS.aload X1.here hx rfl (hb hby at_137) rfl rfl ?_
    show Steps p.tables e below (T1.setTop (mkF m 139 #[.val (.int p1), .val (.int p2), .val (.int p3), .val (.int 0), .val (.int vb), .val (.int va), .val (.ref w_TEXT_START), .val (.int 15), .val (.int 1)] [(.ref w_TEXT_START)])) _
    refine XS.iload X1.here hx rfl (hb hby at_139) rfl ?_
    show Steps p.tables e below (T1.setTop (mkF m 141 #[.val (.int p1), .val (.int p2), .val (.int p3), .val (.int 0), .val (.int vb), .val (.int va), .val (.ref w_TEXT_START), .val (.int 15), .val (.int 1)] [(.int vb), (.ref w_TEXT_START)])) _
    refine XS.iload X1.here hx rfl (hb hby at_141) rfl ?_
    show Steps p.tables e below (T1.setTop (mkF m 143 #[.val (.int p1), .val (.int p2), .val (.int p3), .val (.int 0), .val (.int vb), .val (.int va), .val (.ref w_TEXT_START), .val (.int 15), .val (.int 1)] [(.int va), (.int vb), (.ref w_TEXT_START)])) _
    refine st2.trans ?_
    show Steps p.tables e below (T2.setTop (mkF m 146 #[.val (.int p1), .val (.int p2), .val (.int p3), .val (.int 0), .val (.int vb), .val (.int va), .val (.ref w_TEXT_START), .val (.int 15), .val (.int 1)] [(.int 1)])) _
    refine XS.iload X2.here hx rfl (hb hby at_146) rfl ?_
    show Steps p.tables e below (T2.setTop (mkF m 148 #[.val (.int p1), .val (.int p2), .val (.int p3), .val (.int 0), .val (.int vb), .val (.int va), .val (.ref w_TEXT_START), .val (.int 15), .val (.int 1)] [(.int 1), (.int 1)])) _
    refine XS.icmpNo X2.here hx rfl (hb hby at_148) rfl (teq (by decide : (1 : Int32) = (1 : Int32))).2 ?_
    show Steps p.tables e below (T2.setTop (mkF m 151 #[.val (.int p1), .val (.int p2), .val (.int p3), .val (.int 0), .val (.int vb), .val (.int va), .val (.ref w_TEXT_START), .val (.int 15), .val (.int 1)] [])) _
    refine XS.iconst X2.here hx rfl (hb hby at_151) ?_
    show Steps p.tables e below (T2.setTop (mkF m 152 #[.val (.int p1), .val (.int p2), .val (.int p3), .val (.int 0), .val (.int vb), .val (.int va), .val (.ref w_TEXT_START), .val (.int 15), .val (.int 1)] [(.int 1)])) _
    refine XS.goto X2.here hx rfl (pc0 := 152) (pc' := 156) rfl (hb hby at_152) (by decide) (by decide) ?_
    show Steps p.tables e below (T2.setTop (mkF m 156 #[.val (.int p1), .val (.int p2), .val (.int p3), .val (.int 0), .val (.int vb), .val (.int va), .val (.ref w_TEXT_START), .val (.int 15), .val (.int 1)] [(.int 1)])) _
    exact retN X2 hx (t := .boolean) Bd.returns (by simp) (hb hby at_156) hr
  · show Q0_k0f Z p1 p2 p3 vb va w_TEXT_START h0 n0 _ T2.heap _
    rw [e2]
    exact ⟨rfl, N2, rfl⟩
def Q1_w_TEXT_START_vb_va_rt (Z : State) (w_TEXT_START : Addr) (vb : Int32) (va : Int32) (h0 : Heap) (n0 : Nat) (v : Option Value) (h : Heap) (L : List Loc) : Prop := v = some (.int 0) ∧ Fr n0 L ∧ h = h0
set_option maxRecDepth 65536 in
set_option maxHeartbeats 40000000 in
theorem rm1_w_TEXT_START_vb_va_rt (l : Launch) (Z : State) (a0 : Array Value) (hw : ∀ d ∈ tables_1, d.before a0 Z = true) (ws : List Jvm.Cond) (w_TEXT_START : Addr) (vb : Int32) (va : Int32) (h0 : Heap) (n0 : Nat) (Z0 : n0 ≤ h0.size) (F_ordinal_w_TEXT_START : Fld Z h0 w_TEXT_START "java/lang/Enum" "ordinal" "I" (.int 0)) (E_w_TEXT_START : Exa Z h0 w_TEXT_START "com/example/termwell/termwell/core/text/RegexNode$Anchor") (hc55 : ¬ (vb = (0 : Int32))) :
    MetFree l (⟨"com/example/termwell/termwell/core/text/RegexNode$Anchor", "holds", "(II)Z"⟩ : MethodName) (head1 (Jvm.Cond.code (⟨"com/example/termwell/termwell/core/text/RegexNode$Anchor", "holds", "(II)Z"⟩ : MethodName) prog_28_method_5_code 3 (some .boolean) :: ws) ({ frames := 1, cells := 0, slots := 0, locals := 12 } : Room)) (fun a U => a = #[(.ref w_TEXT_START), (.int vb), (.int va)] ∧ Z.Warmed39 U.vm ∧ U.heap = h0) (fun _ _ _ _ _ => True) (fun _ U o U' => ∃ v L, o = .returned v ∧ Q1_w_TEXT_START_vb_va_rt Z w_TEXT_START vb va h0 n0 v U'.heap L ∧ FrameEnd U o U' L ({ frames := 1, cells := 0, slots := 0, locals := 12 } : Room).cells ({ frames := 1, cells := 0, slots := 0, locals := 12 } : Room).slots) := by
  refine MetFree.of_bodySF (plainFor_of_name pn_1) hisR ?_
  intro p e s m args below meth c s₁ Bd hml0 hP hK
  obtain ⟨rfl, hZ, hh⟩ := hP
  have hx := Bd.exec
  have hby := Bd.bytes
  have hml : c.maxLocals = 3 := hml0
  have hown : s.vm.findClass "com/example/termwell/termwell/core/text/RegexNode$Anchor" = some m.cls := findClass_of_methodNamed Bd.named
  have hnm := (name_of_methodNamed Bd.named Bd.method).1
  have X0 : Stand p l e ({ frames := 1, cells := 0, slots := 0, locals := 12 } : Room) s m #[(.ref w_TEXT_START), (.int vb), (.int va)] below meth c s₁ [] 0 0 := Stand.of_body Bd
  have e0 : s₁.heap = h0 := by rw [← hh, Bd.state]; rfl
  have N0 := Fr.nil n0
  have pre0 : ∀ t, Steps p.tables e below (s₁.setTop (mkF m 0 #[.val (.ref w_TEXT_START), .val (.int vb), .val (.int va)] [])) t → Steps p.tables e below (s₁.setTop (entryFrame m #[(.ref w_TEXT_START), (.int vb), (.int va)] 3)) t := fun t k => castTop (by first | (simp [entryFrame, mkF, argsToLocals, Value.category]; done) | rfl) k
  obtain ⟨cq1, kq1, q1a, q1b, q1c⟩ := isOf hZ e0 E_w_TEXT_START
  obtain ⟨_, _, ⟨T1, L1, k1, n1⟩, -, X1, ⟨Lc1, hQ1, l1, y1, z1⟩, st1⟩ := X0.virtualBackUp hx (x := (⟨"com/example/termwell/termwell/core/text/RegexNode$Anchor", "ordinal", "()I"⟩ : MethodName)) (y := (⟨"java/lang/Enum", "ordinal", "()I"⟩ : MethodName)) (owner := "java/lang/Enum") hown (mvT hZ (hw _ (List.mem_of_getElem? (i := 9) rfl))) (mvT hZ (hw _ (List.mem_of_getElem? (i := 10) rfl))) (mvT hZ (hw _ (List.mem_of_getElem? (i := 11) rfl))) (by decide) (mvT hZ (hw _ (List.mem_of_getElem? (i := 13) rfl))) (mvT hZ (hw _ (List.mem_of_getElem? (i := 12) rfl))) (backOf (W := 0) (rm2_w_TEXT_START l Z a0 hw [] w_TEXT_START h0 n0 Z0 F_ordinal_w_TEXT_START) hZ (hw _ (List.mem_of_getElem? (i := 15) rfl)) (hw _ (List.mem_of_getElem? (i := 14) rfl)) (by decide) (by decide)) q1a q1c (g := (mkF m 1 #[.val (.ref w_TEXT_START), .val (.int vb), .val (.int va)] [(.ref w_TEXT_START)])) rfl (by rw [hml]; rfl) (Steps.refl _) (argsL := []) (rest := []) (lenOf pd___I rfl) rfl (by show 2 * 0 + _ ≤ _; exact Nat.le_of_eq rfl) (hb hby d1_1) (fun _ _ => ⟨rfl, e0, (by decide : 0 + 0 ≤ _), (by decide : 0 + 0 ≤ _)⟩)
  dsimp only [Pt.U, Pt.locs, Pt.cells, Pt.slots] at X1 l1 y1 z1 st1 hQ1
  subst l1 y1 z1
  obtain ⟨rfl, N1q, e1⟩ := hQ1
  have N1 := Fr.app N0 N1q
  obtain ⟨fs, hr, hrun, hended, hW, hsame⟩ := X1.leave (v := some (.int 0)) (fun h => by rw [Bd.returns] at h; cases h)
  refine ⟨_, _, pre0 _ ?_, hrun, hended, _, _, rfl, ?_, ⟨_, rfl⟩, hW, hsame.mono (by decide) (by decide)⟩
  · show Steps p.tables e below (s₁.setTop (mkF m 0 #[.val (.ref w_TEXT_START), .val (.int vb), .val (.int va)] [])) _
    refine XS.aloadN X0.here hx rfl (hb hby d1_0) rfl rfl ?_
    show Steps p.tables e below (s₁.setTop (mkF m 1 #[.val (.ref w_TEXT_START), .val (.int vb), .val (.int va)] [(.ref w_TEXT_START)])) _
    refine st1.trans ?_
    show Steps p.tables e below (T1.setTop (mkF m 4 #[.val (.ref w_TEXT_START), .val (.int vb), .val (.int va)] [(.int 0)])) _
    refine XS.tswIn X1.here hx rfl (pc0 := 4) (pc' := 54) rfl (hb hby d1_4) rfl (by decide) (o := 50) (by decide) (by decide) (by decide) ?_
    show Steps p.tables e below (T1.setTop (mkF m 54 #[.val (.ref w_TEXT_START), .val (.int vb), .val (.int va)] [])) _
    refine XS.iloadN X1.here hx rfl (hb hby d1_54) rfl ?_
    show Steps p.tables e below (T1.setTop (mkF m 55 #[.val (.ref w_TEXT_START), .val (.int vb), .val (.int va)] [(.int vb)])) _
    refine XS.ifYes X1.here hx rfl (pc0 := 55) (pc' := 62) rfl (hb hby d1_55) rfl ((if0 _ _).trans (feq hc55).2) (by decide) (by decide) ?_
    show Steps p.tables e below (T1.setTop (mkF m 62 #[.val (.ref w_TEXT_START), .val (.int vb), .val (.int va)] [])) _
    refine XS.iconst X1.here hx rfl (hb hby d1_62) ?_
    show Steps p.tables e below (T1.setTop (mkF m 63 #[.val (.ref w_TEXT_START), .val (.int vb), .val (.int va)] [(.int 0)])) _
    refine XS.goto X1.here hx rfl (pc0 := 63) (pc' := 171) rfl (hb hby d1_63) (by decide) (by decide) ?_
    show Steps p.tables e below (T1.setTop (mkF m 171 #[.val (.ref w_TEXT_START), .val (.int vb), .val (.int va)] [(.int 0)])) _
    exact retN X1 hx (t := .boolean) Bd.returns (by simp) (hb hby d1_171) hr
  · show Q1_w_TEXT_START_vb_va_rt Z w_TEXT_START vb va h0 n0 _ T1.heap _
    rw [e1]
    exact ⟨rfl, N1, rfl⟩
def Q0_k0t (Z : State) (p1 : Int32) (p2 : Int32) (p3 : Int32) (vb : Int32) (va : Int32) (w_TEXT_START : Addr) (h0 : Heap) (n0 : Nat) (v : Option Value) (h : Heap) (L : List Loc) : Prop := v = some (.int 1) ∧ Fr n0 L ∧ h = h0
set_option maxRecDepth 65536 in
set_option maxHeartbeats 40000000 in
theorem rm0_k0t (l : Launch) (Z : State) (a0 : Array Value) (hw : ∀ d ∈ tables_1, d.before a0 Z = true) (ws : List Jvm.Cond) (p1 : Int32) (p2 : Int32) (p3 : Int32) (vb : Int32) (va : Int32) (w_TEXT_START : Addr) (h0 : Heap) (n0 : Nat) (Z0 : n0 ≤ h0.size) (hk : ((p1 &&& (2147483647 : Int32)) % (6 : Int32)) = (0 : Int32)) (hvb : (p2 &&& (3 : Int32)) = vb) (hva : (p3 &&& (3 : Int32)) = va) (S_TEXT_START : Sta Z h0 "com/example/termwell/termwell/core/text/RegexNode$Anchor" "TEXT_START" "Lcom/example/termwell/termwell/core/text/RegexNode$Anchor;" (.ref w_TEXT_START)) (he : ((((15 : Int32).toUInt32 >>> (((vb * (4 : Int32)) + va) &&& 31).toUInt32).toInt32) &&& (1 : Int32)) = (0 : Int32)) (F_ordinal_w_TEXT_START : Fld Z h0 w_TEXT_START "java/lang/Enum" "ordinal" "I" (.int 0)) (E_w_TEXT_START : Exa Z h0 w_TEXT_START "com/example/termwell/termwell/core/text/RegexNode$Anchor") (hc55 : ¬ (vb = (0 : Int32))) :
    MetFree l x (head1 (Jvm.Cond.code x code maxLocals ret :: ws) room_1) (fun a U => a = #[(.int p1), (.int p2), (.int p3)] ∧ Z.Warmed39 U.vm ∧ U.heap = h0) (fun _ _ _ _ _ => True) (fun _ U o U' => ∃ v L, o = .returned v ∧ Q0_k0t Z p1 p2 p3 vb va w_TEXT_START h0 n0 v U'.heap L ∧ FrameEnd U o U' L room_1.cells room_1.slots) := by
  refine MetFree.of_bodySF (plainFor_of_name pn_0) hisR ?_
  intro p e s m args below meth c s₁ Bd hml0 hP hK
  obtain ⟨rfl, hZ, hh⟩ := hP
  have hx := Bd.exec
  have hby := Bd.bytes
  have hml : c.maxLocals = 9 := hml0
  have hown : s.vm.findClass "com/example/termwell/termwell/core/text/AnchorHoldsPinLaw" = some m.cls := findClass_of_methodNamed Bd.named
  have hnm := (name_of_methodNamed Bd.named Bd.method).1
  have X0 : Stand p l e room_1 s m #[(.int p1), (.int p2), (.int p3)] below meth c s₁ [] 0 0 := Stand.of_body Bd
  have e0 : s₁.heap = h0 := by rw [← hh, Bd.state]; rfl
  have N0 := Fr.nil n0
  have pre0 : ∀ t, Steps p.tables e below (s₁.setTop (mkF m 0 #[.val (.int p1), .val (.int p2), .val (.int p3), .unset, .unset, .unset, .unset, .unset, .unset] [])) t → Steps p.tables e below (s₁.setTop (entryFrame m #[(.int p1), (.int p2), (.int p3)] maxLocals)) t := fun t k => castTop (by first | (simp [entryFrame, mkF, argsToLocals, Value.category, maxLocals]; done) | rfl) k
  obtain ⟨T1, X1, e1, st1⟩ := getS2 X0 hx hZ hown (host := "") (Or.inl (hw _ (List.mem_of_getElem? (i := 1) rfl))) Via.refl e0 S_TEXT_START (g := (mkF m 22 #[.val (.int p1), .val (.int p2), .val (.int p3), .val (.int 0), .val (.int vb), .val (.int va), .unset, .unset, .unset] [])) rfl (hb hby at_22)
  obtain ⟨cq2, kq2, q2a, q2b, q2c⟩ := isOf hZ e1 E_w_TEXT_START
  obtain ⟨_, _, ⟨T2, L2, k2, n2⟩, -, X2, ⟨Lc2, hQ2, l2, y2, z2⟩, st2⟩ := X1.virtualBack hx (y := (⟨"com/example/termwell/termwell/core/text/RegexNode$Anchor", "holds", "(II)Z"⟩ : MethodName)) (z := (⟨"com/example/termwell/termwell/core/text/RegexNode$Anchor", "holds", "(II)Z"⟩ : MethodName)) hown (mvT hZ (hw _ (List.mem_of_getElem? (i := 4) rfl))) (mvT hZ (hw _ (List.mem_of_getElem? (i := 5) rfl))) (notFace_of_selects (args := #[]) (mvT hZ (hw _ (List.mem_of_getElem? (i := 7) rfl)))) (mvT hZ (hw _ (List.mem_of_getElem? (i := 7) rfl))) (mvT hZ (hw _ (List.mem_of_getElem? (i := 6) rfl))) (by decide) (backOf (W := 0) (rm1_w_TEXT_START_vb_va_rt l Z a0 hw [] w_TEXT_START vb va h0 n0 Z0 F_ordinal_w_TEXT_START E_w_TEXT_START hc55) hZ (hw _ (List.mem_of_getElem? (i := 8) rfl)) (hw _ (List.mem_of_getElem? (i := 2) rfl)) (by decide) (by decide)) q2a q2c (g := (mkF m 143 #[.val (.int p1), .val (.int p2), .val (.int p3), .val (.int 0), .val (.int vb), .val (.int va), .val (.ref w_TEXT_START), .val (.int 15), .val (.int 0)] [(.int va), (.int vb), (.ref w_TEXT_START)])) rfl (by rw [hml]; rfl) (Steps.refl _) (argsL := [(.int vb), (.int va)]) (rest := []) (lenOf pd__II_Z rfl) rfl (by show 2 * 0 + _ ≤ _; exact Nat.le_of_eq rfl) (hb hby at_143) (fun _ _ => ⟨rfl, e1, (by decide : 0 + 0 ≤ _), (by decide : 0 + 0 ≤ _)⟩)
  dsimp only [Pt.U, Pt.locs, Pt.cells, Pt.slots] at X2 l2 y2 z2 st2 hQ2
  subst l2 y2 z2
  obtain ⟨rfl, N2q, e2⟩ := hQ2
  have N2 := Fr.app N0 N2q
  obtain ⟨fs, hr, hrun, hended, hW, hsame⟩ := X2.leave (v := some (.int 1)) (fun h => by rw [Bd.returns] at h; cases h)
  refine ⟨_, _, pre0 _ ?_, hrun, hended, _, _, rfl, ?_, ⟨_, rfl⟩, hW, hsame.mono (by decide) (by decide)⟩
  · show Steps p.tables e below (s₁.setTop (mkF m 0 #[.val (.int p1), .val (.int p2), .val (.int p3), .unset, .unset, .unset, .unset, .unset, .unset] [])) _
    refine XS.iloadN X0.here hx rfl (hb hby at_0) rfl ?_
    show Steps p.tables e below (s₁.setTop (mkF m 1 #[.val (.int p1), .val (.int p2), .val (.int p3), .unset, .unset, .unset, .unset, .unset, .unset] [(.int p1)])) _
    refine X0.ldcInt hx hown (mvT hZ (hw _ (List.mem_of_getElem? (i := 0) rfl))) (g := (mkF m 1 #[.val (.int p1), .val (.int p2), .val (.int p3), .unset, .unset, .unset, .unset, .unset, .unset] [(.int p1)])) rfl (hb hby at_1) _ ?_
    show Steps p.tables e below (s₁.setTop (mkF m 3 #[.val (.int p1), .val (.int p2), .val (.int p3), .unset, .unset, .unset, .unset, .unset, .unset] [(.int 2147483647), (.int p1)])) _
    refine XS.iand X0.here hx rfl (hb hby at_3) rfl ?_
    show Steps p.tables e below (s₁.setTop (mkF m 4 #[.val (.int p1), .val (.int p2), .val (.int p3), .unset, .unset, .unset, .unset, .unset, .unset] [(.int (p1 &&& (2147483647 : Int32)))])) _
    refine XS.bipush X0.here hx rfl (hb hby at_4) ?_
    show Steps p.tables e below (s₁.setTop (mkF m 6 #[.val (.int p1), .val (.int p2), .val (.int p3), .unset, .unset, .unset, .unset, .unset, .unset] [(.int 6), (.int (p1 &&& (2147483647 : Int32)))])) _
    refine iremM X0 hx rfl (hb hby at_6) rfl (by decide) ?_
    show Steps p.tables e below (s₁.setTop (mkF m 7 #[.val (.int p1), .val (.int p2), .val (.int p3), .unset, .unset, .unset, .unset, .unset, .unset] [(.int ((p1 &&& (2147483647 : Int32)) % (6 : Int32)))])) _
    rw [hk]
    show Steps p.tables e below (s₁.setTop (mkF m 7 #[.val (.int p1), .val (.int p2), .val (.int p3), .unset, .unset, .unset, .unset, .unset, .unset] [(.int 0)])) _
    refine XS.istoreN X0.here hx rfl (hb hby at_7) rfl (l' := #[.val (.int p1), .val (.int p2), .val (.int p3), .val (.int 0), .unset, .unset, .unset, .unset, .unset]) rfl ?_
    show Steps p.tables e below (s₁.setTop (mkF m 8 #[.val (.int p1), .val (.int p2), .val (.int p3), .val (.int 0), .unset, .unset, .unset, .unset, .unset] [])) _
    refine XS.iloadN X0.here hx rfl (hb hby at_8) rfl ?_
    show Steps p.tables e below (s₁.setTop (mkF m 9 #[.val (.int p1), .val (.int p2), .val (.int p3), .val (.int 0), .unset, .unset, .unset, .unset, .unset] [(.int p2)])) _
    refine XS.iconst X0.here hx rfl (hb hby at_9) ?_
    show Steps p.tables e below (s₁.setTop (mkF m 10 #[.val (.int p1), .val (.int p2), .val (.int p3), .val (.int 0), .unset, .unset, .unset, .unset, .unset] [(.int 3), (.int p2)])) _
    refine XS.iand X0.here hx rfl (hb hby at_10) rfl ?_
    show Steps p.tables e below (s₁.setTop (mkF m 11 #[.val (.int p1), .val (.int p2), .val (.int p3), .val (.int 0), .unset, .unset, .unset, .unset, .unset] [(.int (p2 &&& (3 : Int32)))])) _
    rw [hvb]
    show Steps p.tables e below (s₁.setTop (mkF m 11 #[.val (.int p1), .val (.int p2), .val (.int p3), .val (.int 0), .unset, .unset, .unset, .unset, .unset] [(.int vb)])) _
    refine XS.istore X0.here hx rfl (hb hby at_11) rfl (l' := #[.val (.int p1), .val (.int p2), .val (.int p3), .val (.int 0), .val (.int vb), .unset, .unset, .unset, .unset]) rfl ?_
    show Steps p.tables e below (s₁.setTop (mkF m 13 #[.val (.int p1), .val (.int p2), .val (.int p3), .val (.int 0), .val (.int vb), .unset, .unset, .unset, .unset] [])) _
    refine XS.iloadN X0.here hx rfl (hb hby at_13) rfl ?_
    show Steps p.tables e below (s₁.setTop (mkF m 14 #[.val (.int p1), .val (.int p2), .val (.int p3), .val (.int 0), .val (.int vb), .unset, .unset, .unset, .unset] [(.int p3)])) _
    refine XS.iconst X0.here hx rfl (hb hby at_14) ?_
    show Steps p.tables e below (s₁.setTop (mkF m 15 #[.val (.int p1), .val (.int p2), .val (.int p3), .val (.int 0), .val (.int vb), .unset, .unset, .unset, .unset] [(.int 3), (.int p3)])) _
    refine XS.iand X0.here hx rfl (hb hby at_15) rfl ?_
    show Steps p.tables e below (s₁.setTop (mkF m 16 #[.val (.int p1), .val (.int p2), .val (.int p3), .val (.int 0), .val (.int vb), .unset, .unset, .unset, .unset] [(.int (p3 &&& (3 : Int32)))])) _
    rw [hva]
    show Steps p.tables e below (s₁.setTop (mkF m 16 #[.val (.int p1), .val (.int p2), .val (.int p3), .val (.int 0), .val (.int vb), .unset, .unset, .unset, .unset] [(.int va)])) _
    refine XS.istore X0.here hx rfl (hb hby at_16) rfl (l' := #[.val (.int p1), .val (.int p2), .val (.int p3), .val (.int 0), .val (.int vb), .val (.int va), .unset, .unset, .unset]) rfl ?_
    show Steps p.tables e below (s₁.setTop (mkF m 18 #[.val (.int p1), .val (.int p2), .val (.int p3), .val (.int 0), .val (.int vb), .val (.int va), .unset, .unset, .unset] [])) _
    refine XS.iloadN X0.here hx rfl (hb hby at_18) rfl ?_
    show Steps p.tables e below (s₁.setTop (mkF m 19 #[.val (.int p1), .val (.int p2), .val (.int p3), .val (.int 0), .val (.int vb), .val (.int va), .unset, .unset, .unset] [(.int 0)])) _
    refine XS.ifNo X0.here hx rfl (hb hby at_19) rfl ((if0 _ _).trans (teq (by decide : (0 : Int32) = (0 : Int32))).2) ?_
    show Steps p.tables e below (s₁.setTop (mkF m 22 #[.val (.int p1), .val (.int p2), .val (.int p3), .val (.int 0), .val (.int vb), .val (.int va), .unset, .unset, .unset] [])) _
    refine st1 _ ?_
    show Steps p.tables e below (T1.setTop (mkF m 25 #[.val (.int p1), .val (.int p2), .val (.int p3), .val (.int 0), .val (.int vb), .val (.int va), .unset, .unset, .unset] [(.ref w_TEXT_START)])) _
    refine XS.astore X1.here hx rfl (hb hby at_25) rfl rfl (l' := #[.val (.int p1), .val (.int p2), .val (.int p3), .val (.int 0), .val (.int vb), .val (.int va), .val (.ref w_TEXT_START), .unset, .unset]) rfl ?_
    show Steps p.tables e below (T1.setTop (mkF m 27 #[.val (.int p1), .val (.int p2), .val (.int p3), .val (.int 0), .val (.int vb), .val (.int va), .val (.ref w_TEXT_START), .unset, .unset] [])) _
    refine XS.bipush X1.here hx rfl (hb hby at_27) ?_
    show Steps p.tables e below (T1.setTop (mkF m 29 #[.val (.int p1), .val (.int p2), .val (.int p3), .val (.int 0), .val (.int vb), .val (.int va), .val (.ref w_TEXT_START), .unset, .unset] [(.int 15)])) _
    refine XS.istore X1.here hx rfl (hb hby at_29) rfl (l' := #[.val (.int p1), .val (.int p2), .val (.int p3), .val (.int 0), .val (.int vb), .val (.int va), .val (.ref w_TEXT_START), .val (.int 15), .unset]) rfl ?_
    show Steps p.tables e below (T1.setTop (mkF m 31 #[.val (.int p1), .val (.int p2), .val (.int p3), .val (.int 0), .val (.int vb), .val (.int va), .val (.ref w_TEXT_START), .val (.int 15), .unset] [])) _
    refine XS.goto X1.here hx rfl (pc0 := 31) (pc' := 115) rfl (hb hby at_31) (by decide) (by decide) ?_
    show Steps p.tables e below (T1.setTop (mkF m 115 #[.val (.int p1), .val (.int p2), .val (.int p3), .val (.int 0), .val (.int vb), .val (.int va), .val (.ref w_TEXT_START), .val (.int 15), .unset] [])) _
    refine XS.iload X1.here hx rfl (hb hby at_115) rfl ?_
    show Steps p.tables e below (T1.setTop (mkF m 117 #[.val (.int p1), .val (.int p2), .val (.int p3), .val (.int 0), .val (.int vb), .val (.int va), .val (.ref w_TEXT_START), .val (.int 15), .unset] [(.int 15)])) _
    refine XS.iload X1.here hx rfl (hb hby at_117) rfl ?_
    show Steps p.tables e below (T1.setTop (mkF m 119 #[.val (.int p1), .val (.int p2), .val (.int p3), .val (.int 0), .val (.int vb), .val (.int va), .val (.ref w_TEXT_START), .val (.int 15), .unset] [(.int vb), (.int 15)])) _
    refine XS.iconst X1.here hx rfl (hb hby at_119) ?_
    show Steps p.tables e below (T1.setTop (mkF m 120 #[.val (.int p1), .val (.int p2), .val (.int p3), .val (.int 0), .val (.int vb), .val (.int va), .val (.ref w_TEXT_START), .val (.int 15), .unset] [(.int 4), (.int vb), (.int 15)])) _
    refine XS.imul X1.here hx rfl (hb hby at_120) rfl ?_
    show Steps p.tables e below (T1.setTop (mkF m 121 #[.val (.int p1), .val (.int p2), .val (.int p3), .val (.int 0), .val (.int vb), .val (.int va), .val (.ref w_TEXT_START), .val (.int 15), .unset] [(.int (vb * (4 : Int32))), (.int 15)])) _
    refine XS.iload X1.here hx rfl (hb hby at_121) rfl ?_
    show Steps p.tables e below (T1.setTop (mkF m 123 #[.val (.int p1), .val (.int p2), .val (.int p3), .val (.int 0), .val (.int vb), .val (.int va), .val (.ref w_TEXT_START), .val (.int 15), .unset] [(.int va), (.int (vb * (4 : Int32))), (.int 15)])) _
    refine XS.iadd X1.here hx rfl (hb hby at_123) rfl ?_
    show Steps p.tables e below (T1.setTop (mkF m 124 #[.val (.int p1), .val (.int p2), .val (.int p3), .val (.int 0), .val (.int vb), .val (.int va), .val (.ref w_TEXT_START), .val (.int 15), .unset] [(.int ((vb * (4 : Int32)) + va)), (.int 15)])) _
    refine XS.iushr X1.here hx rfl (hb hby at_124) rfl ?_
    show Steps p.tables e below (T1.setTop (mkF m 125 #[.val (.int p1), .val (.int p2), .val (.int p3), .val (.int 0), .val (.int vb), .val (.int va), .val (.ref w_TEXT_START), .val (.int 15), .unset] [(.int (((15 : Int32).toUInt32 >>> (((vb * (4 : Int32)) + va) &&& 31).toUInt32).toInt32))])) _
    refine XS.iconst X1.here hx rfl (hb hby at_125) ?_
    show Steps p.tables e below (T1.setTop (mkF m 126 #[.val (.int p1), .val (.int p2), .val (.int p3), .val (.int 0), .val (.int vb), .val (.int va), .val (.ref w_TEXT_START), .val (.int 15), .unset] [(.int 1), (.int (((15 : Int32).toUInt32 >>> (((vb * (4 : Int32)) + va) &&& 31).toUInt32).toInt32))])) _
    refine XS.iand X1.here hx rfl (hb hby at_126) rfl ?_
    show Steps p.tables e below (T1.setTop (mkF m 127 #[.val (.int p1), .val (.int p2), .val (.int p3), .val (.int 0), .val (.int vb), .val (.int va), .val (.ref w_TEXT_START), .val (.int 15), .unset] [(.int ((((15 : Int32).toUInt32 >>> (((vb * (4 : Int32)) + va) &&& 31).toUInt32).toInt32) &&& (1 : Int32)))])) _
    rw [he]
    show Steps p.tables e below (T1.setTop (mkF m 127 #[.val (.int p1), .val (.int p2), .val (.int p3), .val (.int 0), .val (.int vb), .val (.int va), .val (.ref w_TEXT_START), .val (.int 15), .unset] [(.int 0)])) _
    refine XS.ifYes X1.here hx rfl (pc0 := 127) (pc' := 134) rfl (hb hby at_127) rfl ((if0 _ _).trans (teq (by decide : (0 : Int32) = (0 : Int32))).1) (by decide) (by decide) ?_
    show Steps p.tables e below (T1.setTop (mkF m 134 #[.val (.int p1), .val (.int p2), .val (.int p3), .val (.int 0), .val (.int vb), .val (.int va), .val (.ref w_TEXT_START), .val (.int 15), .unset] [])) _
    refine XS.iconst X1.here hx rfl (hb hby at_134) ?_
    show Steps p.tables e below (T1.setTop (mkF m 135 #[.val (.int p1), .val (.int p2), .val (.int p3), .val (.int 0), .val (.int vb), .val (.int va), .val (.ref w_TEXT_START), .val (.int 15), .unset] [(.int 0)])) _
    refine XS.istore X1.here hx rfl (hb hby at_135) rfl (l' := #[.val (.int p1), .val (.int p2), .val (.int p3), .val (.int 0), .val (.int vb), .val (.int va), .val (.ref w_TEXT_START), .val (.int 15), .val (.int 0)]) rfl ?_
    show Steps p.tables e below (T1.setTop (mkF m 137 #[.val (.int p1), .val (.int p2), .val (.int p3), .val (.int 0), .val (.int vb), .val (.int va), .val (.ref w_TEXT_START), .val (.int 15), .val (.int 0)] [])) _
    refine XS.aload X1.here hx rfl (hb hby at_137) rfl rfl ?_
    show Steps p.tables e below (T1.setTop (mkF m 139 #[.val (.int p1), .val (.int p2), .val (.int p3), .val (.int 0), .val (.int vb), .val (.int va), .val (.ref w_TEXT_START), .val (.int 15), .val (.int 0)] [(.ref w_TEXT_START)])) _
    refine XS.iload X1.here hx rfl (hb hby at_139) rfl ?_
    show Steps p.tables e below (T1.setTop (mkF m 141 #[.val (.int p1), .val (.int p2), .val (.int p3), .val (.int 0), .val (.int vb), .val (.int va), .val (.ref w_TEXT_START), .val (.int 15), .val (.int 0)] [(.int vb), (.ref w_TEXT_START)])) _
    refine XS.iload X1.here hx rfl (hb hby at_141) rfl ?_
    show Steps p.tables e below (T1.setTop (mkF m 143 #[.val (.int p1), .val (.int p2), .val (.int p3), .val (.int 0), .val (.int vb), .val (.int va), .val (.ref w_TEXT_START), .val (.int 15), .val (.int 0)] [(.int va), (.int vb), (.ref w_TEXT_START)])) _
    refine st2.trans ?_
    show Steps p.tables e below (T2.setTop (mkF m 146 #[.val (.int p1), .val (.int p2), .val (.int p3), .val (.int 0), .val (.int vb), .val (.int va), .val (.ref w_TEXT_START), .val (.int 15), .val (.int 0)] [(.int 0)])) _
    refine XS.iload X2.here hx rfl (hb hby at_146) rfl ?_
    show Steps p.tables e below (T2.setTop (mkF m 148 #[.val (.int p1), .val (.int p2), .val (.int p3), .val (.int 0), .val (.int vb), .val (.int va), .val (.ref w_TEXT_START), .val (.int 15), .val (.int 0)] [(.int 0), (.int 0)])) _
    refine XS.icmpNo X2.here hx rfl (hb hby at_148) rfl (teq (by decide : (0 : Int32) = (0 : Int32))).2 ?_
    show Steps p.tables e below (T2.setTop (mkF m 151 #[.val (.int p1), .val (.int p2), .val (.int p3), .val (.int 0), .val (.int vb), .val (.int va), .val (.ref w_TEXT_START), .val (.int 15), .val (.int 0)] [])) _
    refine XS.iconst X2.here hx rfl (hb hby at_151) ?_
    show Steps p.tables e below (T2.setTop (mkF m 152 #[.val (.int p1), .val (.int p2), .val (.int p3), .val (.int 0), .val (.int vb), .val (.int va), .val (.ref w_TEXT_START), .val (.int 15), .val (.int 0)] [(.int 1)])) _
    refine XS.goto X2.here hx rfl (pc0 := 152) (pc' := 156) rfl (hb hby at_152) (by decide) (by decide) ?_
    show Steps p.tables e below (T2.setTop (mkF m 156 #[.val (.int p1), .val (.int p2), .val (.int p3), .val (.int 0), .val (.int vb), .val (.int va), .val (.ref w_TEXT_START), .val (.int 15), .val (.int 0)] [(.int 1)])) _
    exact retN X2 hx (t := .boolean) Bd.returns (by simp) (hb hby at_156) hr
  · show Q0_k0t Z p1 p2 p3 vb va w_TEXT_START h0 n0 _ T2.heap _
    rw [e2]
    exact ⟨rfl, N2, rfl⟩
def Q2_w_TEXT_END (Z : State) (w_TEXT_END : Addr) (h0 : Heap) (n0 : Nat) (v : Option Value) (h : Heap) (L : List Loc) : Prop := v = some (.int 1) ∧ Fr n0 L ∧ h = h0
set_option maxRecDepth 65536 in
set_option maxHeartbeats 40000000 in
theorem rm2_w_TEXT_END (l : Launch) (Z : State) (a0 : Array Value) (hw : ∀ d ∈ tables_1, d.before a0 Z = true) (ws : List Jvm.Cond) (w_TEXT_END : Addr) (h0 : Heap) (n0 : Nat) (Z0 : n0 ≤ h0.size) (F_ordinal_w_TEXT_END : Fld Z h0 w_TEXT_END "java/lang/Enum" "ordinal" "I" (.int 1)) :
    MetFree l (⟨"java/lang/Enum", "ordinal", "()I"⟩ : MethodName) (head1 (Jvm.Cond.code (⟨"java/lang/Enum", "ordinal", "()I"⟩ : MethodName) jdk_37_method_2_code 1 (some .int) :: ws) ({ frames := 0, cells := 0, slots := 0, locals := 0 } : Room)) (fun a U => a = #[(.ref w_TEXT_END)] ∧ Z.Warmed39 U.vm ∧ U.heap = h0) (fun _ _ _ _ _ => True) (fun _ U o U' => ∃ v L, o = .returned v ∧ Q2_w_TEXT_END Z w_TEXT_END h0 n0 v U'.heap L ∧ FrameEnd U o U' L ({ frames := 0, cells := 0, slots := 0, locals := 0 } : Room).cells ({ frames := 0, cells := 0, slots := 0, locals := 0 } : Room).slots) := by
  refine MetFree.of_bodySF (plainFor_of_name pn_2) hisR ?_
  intro p e s m args below meth c s₁ Bd hml0 hP hK
  obtain ⟨rfl, hZ, hh⟩ := hP
  have hx := Bd.exec
  have hby := Bd.bytes
  have hml : c.maxLocals = 1 := hml0
  have hown : s.vm.findClass "java/lang/Enum" = some m.cls := findClass_of_methodNamed Bd.named
  have hnm := (name_of_methodNamed Bd.named Bd.method).1
  have X0 : Stand p l e ({ frames := 0, cells := 0, slots := 0, locals := 0 } : Room) s m #[(.ref w_TEXT_END)] below meth c s₁ [] 0 0 := Stand.of_body Bd
  have e0 : s₁.heap = h0 := by rw [← hh, Bd.state]; rfl
  have N0 := Fr.nil n0
  have pre0 : ∀ t, Steps p.tables e below (s₁.setTop (mkF m 0 #[.val (.ref w_TEXT_END)] [])) t → Steps p.tables e below (s₁.setTop (entryFrame m #[(.ref w_TEXT_END)] 1)) t := fun t k => castTop (by first | (simp [entryFrame, mkF, argsToLocals, Value.category]; done) | rfl) k
  obtain ⟨T1, X1, e1, st1⟩ := getF X0 hx hZ hown (host := "") (Or.inl (hw _ (List.mem_of_getElem? (i := 16) rfl))) Via.refl e0 F_ordinal_w_TEXT_END (g := (mkF m 1 #[.val (.ref w_TEXT_END)] [(.ref w_TEXT_END)])) rfl rfl (hb hby d2_1)
  obtain ⟨fs, hr, hrun, hended, hW, hsame⟩ := X1.leave (v := some (.int 1)) (fun h => by rw [Bd.returns] at h; cases h)
  refine ⟨_, _, pre0 _ ?_, hrun, hended, _, _, rfl, ?_, ⟨_, rfl⟩, hW, hsame.mono (by decide) (by decide)⟩
  · show Steps p.tables e below (s₁.setTop (mkF m 0 #[.val (.ref w_TEXT_END)] [])) _
    refine XS.aloadN X0.here hx rfl (hb hby d2_0) rfl rfl ?_
    show Steps p.tables e below (s₁.setTop (mkF m 1 #[.val (.ref w_TEXT_END)] [(.ref w_TEXT_END)])) _
    refine st1 _ ?_
    show Steps p.tables e below (T1.setTop (mkF m 4 #[.val (.ref w_TEXT_END)] [(.int 1)])) _
    exact retI X1 hx Bd.returns (hb hby d2_4) hr
  · show Q2_w_TEXT_END Z w_TEXT_END h0 n0 _ T1.heap _
    rw [e1]
    exact ⟨rfl, N0, rfl⟩
def Q1_w_TEXT_END_vb_va_rf (Z : State) (w_TEXT_END : Addr) (vb : Int32) (va : Int32) (h0 : Heap) (n0 : Nat) (v : Option Value) (h : Heap) (L : List Loc) : Prop := v = some (.int 1) ∧ Fr n0 L ∧ h = h0
set_option maxRecDepth 65536 in
set_option maxHeartbeats 40000000 in
theorem rm1_w_TEXT_END_vb_va_rf (l : Launch) (Z : State) (a0 : Array Value) (hw : ∀ d ∈ tables_1, d.before a0 Z = true) (ws : List Jvm.Cond) (w_TEXT_END : Addr) (vb : Int32) (va : Int32) (h0 : Heap) (n0 : Nat) (Z0 : n0 ≤ h0.size) (F_ordinal_w_TEXT_END : Fld Z h0 w_TEXT_END "java/lang/Enum" "ordinal" "I" (.int 1)) (E_w_TEXT_END : Exa Z h0 w_TEXT_END "com/example/termwell/termwell/core/text/RegexNode$Anchor") (hc67 : va = (0 : Int32)) :
    MetFree l (⟨"com/example/termwell/termwell/core/text/RegexNode$Anchor", "holds", "(II)Z"⟩ : MethodName) (head1 (Jvm.Cond.code (⟨"com/example/termwell/termwell/core/text/RegexNode$Anchor", "holds", "(II)Z"⟩ : MethodName) prog_28_method_5_code 3 (some .boolean) :: ws) ({ frames := 1, cells := 0, slots := 0, locals := 12 } : Room)) (fun a U => a = #[(.ref w_TEXT_END), (.int vb), (.int va)] ∧ Z.Warmed39 U.vm ∧ U.heap = h0) (fun _ _ _ _ _ => True) (fun _ U o U' => ∃ v L, o = .returned v ∧ Q1_w_TEXT_END_vb_va_rf Z w_TEXT_END vb va h0 n0 v U'.heap L ∧ FrameEnd U o U' L ({ frames := 1, cells := 0, slots := 0, locals := 12 } : Room).cells ({ frames := 1, cells := 0, slots := 0, locals := 12 } : Room).slots) := by
  refine MetFree.of_bodySF (plainFor_of_name pn_1) hisR ?_
  intro p e s m args below meth c s₁ Bd hml0 hP hK
  obtain ⟨rfl, hZ, hh⟩ := hP
  have hx := Bd.exec
  have hby := Bd.bytes
  have hml : c.maxLocals = 3 := hml0
  have hown : s.vm.findClass "com/example/termwell/termwell/core/text/RegexNode$Anchor" = some m.cls := findClass_of_methodNamed Bd.named
  have hnm := (name_of_methodNamed Bd.named Bd.method).1
  have X0 : Stand p l e ({ frames := 1, cells := 0, slots := 0, locals := 12 } : Room) s m #[(.ref w_TEXT_END), (.int vb), (.int va)] below meth c s₁ [] 0 0 := Stand.of_body Bd
  have e0 : s₁.heap = h0 := by rw [← hh, Bd.state]; rfl
  have N0 := Fr.nil n0
  have pre0 : ∀ t, Steps p.tables e below (s₁.setTop (mkF m 0 #[.val (.ref w_TEXT_END), .val (.int vb), .val (.int va)] [])) t → Steps p.tables e below (s₁.setTop (entryFrame m #[(.ref w_TEXT_END), (.int vb), (.int va)] 3)) t := fun t k => castTop (by first | (simp [entryFrame, mkF, argsToLocals, Value.category]; done) | rfl) k
  obtain ⟨cq1, kq1, q1a, q1b, q1c⟩ := isOf hZ e0 E_w_TEXT_END
  obtain ⟨_, _, ⟨T1, L1, k1, n1⟩, -, X1, ⟨Lc1, hQ1, l1, y1, z1⟩, st1⟩ := X0.virtualBackUp hx (x := (⟨"com/example/termwell/termwell/core/text/RegexNode$Anchor", "ordinal", "()I"⟩ : MethodName)) (y := (⟨"java/lang/Enum", "ordinal", "()I"⟩ : MethodName)) (owner := "java/lang/Enum") hown (mvT hZ (hw _ (List.mem_of_getElem? (i := 9) rfl))) (mvT hZ (hw _ (List.mem_of_getElem? (i := 10) rfl))) (mvT hZ (hw _ (List.mem_of_getElem? (i := 11) rfl))) (by decide) (mvT hZ (hw _ (List.mem_of_getElem? (i := 13) rfl))) (mvT hZ (hw _ (List.mem_of_getElem? (i := 12) rfl))) (backOf (W := 0) (rm2_w_TEXT_END l Z a0 hw [] w_TEXT_END h0 n0 Z0 F_ordinal_w_TEXT_END) hZ (hw _ (List.mem_of_getElem? (i := 15) rfl)) (hw _ (List.mem_of_getElem? (i := 14) rfl)) (by decide) (by decide)) q1a q1c (g := (mkF m 1 #[.val (.ref w_TEXT_END), .val (.int vb), .val (.int va)] [(.ref w_TEXT_END)])) rfl (by rw [hml]; rfl) (Steps.refl _) (argsL := []) (rest := []) (lenOf pd___I rfl) rfl (by show 2 * 0 + _ ≤ _; exact Nat.le_of_eq rfl) (hb hby d1_1) (fun _ _ => ⟨rfl, e0, (by decide : 0 + 0 ≤ _), (by decide : 0 + 0 ≤ _)⟩)
  dsimp only [Pt.U, Pt.locs, Pt.cells, Pt.slots] at X1 l1 y1 z1 st1 hQ1
  subst l1 y1 z1
  obtain ⟨rfl, N1q, e1⟩ := hQ1
  have N1 := Fr.app N0 N1q
  obtain ⟨fs, hr, hrun, hended, hW, hsame⟩ := X1.leave (v := some (.int 1)) (fun h => by rw [Bd.returns] at h; cases h)
  refine ⟨_, _, pre0 _ ?_, hrun, hended, _, _, rfl, ?_, ⟨_, rfl⟩, hW, hsame.mono (by decide) (by decide)⟩
  · show Steps p.tables e below (s₁.setTop (mkF m 0 #[.val (.ref w_TEXT_END), .val (.int vb), .val (.int va)] [])) _
    refine XS.aloadN X0.here hx rfl (hb hby d1_0) rfl rfl ?_
    show Steps p.tables e below (s₁.setTop (mkF m 1 #[.val (.ref w_TEXT_END), .val (.int vb), .val (.int va)] [(.ref w_TEXT_END)])) _
    refine st1.trans ?_
    show Steps p.tables e below (T1.setTop (mkF m 4 #[.val (.ref w_TEXT_END), .val (.int vb), .val (.int va)] [(.int 1)])) _
    refine XS.tswIn X1.here hx rfl (pc0 := 4) (pc' := 66) rfl (hb hby d1_4) rfl (by decide) (o := 62) (by decide) (by decide) (by decide) ?_
    show Steps p.tables e below (T1.setTop (mkF m 66 #[.val (.ref w_TEXT_END), .val (.int vb), .val (.int va)] [])) _
    refine XS.iloadN X1.here hx rfl (hb hby d1_66) rfl ?_
    show Steps p.tables e below (T1.setTop (mkF m 67 #[.val (.ref w_TEXT_END), .val (.int vb), .val (.int va)] [(.int va)])) _
    refine XS.ifNo X1.here hx rfl (hb hby d1_67) rfl ((if0 _ _).trans (teq hc67).2) ?_
    show Steps p.tables e below (T1.setTop (mkF m 70 #[.val (.ref w_TEXT_END), .val (.int vb), .val (.int va)] [])) _
    refine XS.iconst X1.here hx rfl (hb hby d1_70) ?_
    show Steps p.tables e below (T1.setTop (mkF m 71 #[.val (.ref w_TEXT_END), .val (.int vb), .val (.int va)] [(.int 1)])) _
    refine XS.goto X1.here hx rfl (pc0 := 71) (pc' := 171) rfl (hb hby d1_71) (by decide) (by decide) ?_
    show Steps p.tables e below (T1.setTop (mkF m 171 #[.val (.ref w_TEXT_END), .val (.int vb), .val (.int va)] [(.int 1)])) _
    exact retN X1 hx (t := .boolean) Bd.returns (by simp) (hb hby d1_171) hr
  · show Q1_w_TEXT_END_vb_va_rf Z w_TEXT_END vb va h0 n0 _ T1.heap _
    rw [e1]
    exact ⟨rfl, N1, rfl⟩
def Q0_k1f (Z : State) (p1 : Int32) (p2 : Int32) (p3 : Int32) (vb : Int32) (va : Int32) (w_TEXT_END : Addr) (h0 : Heap) (n0 : Nat) (v : Option Value) (h : Heap) (L : List Loc) : Prop := v = some (.int 1) ∧ Fr n0 L ∧ h = h0
set_option maxRecDepth 65536 in
set_option maxHeartbeats 40000000 in
theorem rm0_k1f (l : Launch) (Z : State) (a0 : Array Value) (hw : ∀ d ∈ tables_1, d.before a0 Z = true) (ws : List Jvm.Cond) (p1 : Int32) (p2 : Int32) (p3 : Int32) (vb : Int32) (va : Int32) (w_TEXT_END : Addr) (h0 : Heap) (n0 : Nat) (Z0 : n0 ≤ h0.size) (hk : ((p1 &&& (2147483647 : Int32)) % (6 : Int32)) = (1 : Int32)) (hvb : (p2 &&& (3 : Int32)) = vb) (hva : (p3 &&& (3 : Int32)) = va) (S_TEXT_END : Sta Z h0 "com/example/termwell/termwell/core/text/RegexNode$Anchor" "TEXT_END" "Lcom/example/termwell/termwell/core/text/RegexNode$Anchor;" (.ref w_TEXT_END)) (he : ((((4369 : Int32).toUInt32 >>> (((vb * (4 : Int32)) + va) &&& 31).toUInt32).toInt32) &&& (1 : Int32)) = (1 : Int32)) (F_ordinal_w_TEXT_END : Fld Z h0 w_TEXT_END "java/lang/Enum" "ordinal" "I" (.int 1)) (E_w_TEXT_END : Exa Z h0 w_TEXT_END "com/example/termwell/termwell/core/text/RegexNode$Anchor") (hc67 : va = (0 : Int32)) :
    MetFree l x (head1 (Jvm.Cond.code x code maxLocals ret :: ws) room_1) (fun a U => a = #[(.int p1), (.int p2), (.int p3)] ∧ Z.Warmed39 U.vm ∧ U.heap = h0) (fun _ _ _ _ _ => True) (fun _ U o U' => ∃ v L, o = .returned v ∧ Q0_k1f Z p1 p2 p3 vb va w_TEXT_END h0 n0 v U'.heap L ∧ FrameEnd U o U' L room_1.cells room_1.slots) := by
  refine MetFree.of_bodySF (plainFor_of_name pn_0) hisR ?_
  intro p e s m args below meth c s₁ Bd hml0 hP hK
  obtain ⟨rfl, hZ, hh⟩ := hP
  have hx := Bd.exec
  have hby := Bd.bytes
  have hml : c.maxLocals = 9 := hml0
  have hown : s.vm.findClass "com/example/termwell/termwell/core/text/AnchorHoldsPinLaw" = some m.cls := findClass_of_methodNamed Bd.named
  have hnm := (name_of_methodNamed Bd.named Bd.method).1
  have X0 : Stand p l e room_1 s m #[(.int p1), (.int p2), (.int p3)] below meth c s₁ [] 0 0 := Stand.of_body Bd
  have e0 : s₁.heap = h0 := by rw [← hh, Bd.state]; rfl
  have N0 := Fr.nil n0
  have pre0 : ∀ t, Steps p.tables e below (s₁.setTop (mkF m 0 #[.val (.int p1), .val (.int p2), .val (.int p3), .unset, .unset, .unset, .unset, .unset, .unset] [])) t → Steps p.tables e below (s₁.setTop (entryFrame m #[(.int p1), (.int p2), (.int p3)] maxLocals)) t := fun t k => castTop (by first | (simp [entryFrame, mkF, argsToLocals, Value.category, maxLocals]; done) | rfl) k
  obtain ⟨T1, X1, e1, st1⟩ := getS2 X0 hx hZ hown (host := "") (Or.inl (hw _ (List.mem_of_getElem? (i := 18) rfl))) Via.refl e0 S_TEXT_END (g := (mkF m 39 #[.val (.int p1), .val (.int p2), .val (.int p3), .val (.int 1), .val (.int vb), .val (.int va), .unset, .unset, .unset] [])) rfl (hb hby at_39)
  obtain ⟨cq2, kq2, q2a, q2b, q2c⟩ := isOf hZ e1 E_w_TEXT_END
  obtain ⟨_, _, ⟨T2, L2, k2, n2⟩, -, X2, ⟨Lc2, hQ2, l2, y2, z2⟩, st2⟩ := X1.virtualBack hx (y := (⟨"com/example/termwell/termwell/core/text/RegexNode$Anchor", "holds", "(II)Z"⟩ : MethodName)) (z := (⟨"com/example/termwell/termwell/core/text/RegexNode$Anchor", "holds", "(II)Z"⟩ : MethodName)) hown (mvT hZ (hw _ (List.mem_of_getElem? (i := 4) rfl))) (mvT hZ (hw _ (List.mem_of_getElem? (i := 5) rfl))) (notFace_of_selects (args := #[]) (mvT hZ (hw _ (List.mem_of_getElem? (i := 7) rfl)))) (mvT hZ (hw _ (List.mem_of_getElem? (i := 7) rfl))) (mvT hZ (hw _ (List.mem_of_getElem? (i := 6) rfl))) (by decide) (backOf (W := 0) (rm1_w_TEXT_END_vb_va_rf l Z a0 hw [] w_TEXT_END vb va h0 n0 Z0 F_ordinal_w_TEXT_END E_w_TEXT_END hc67) hZ (hw _ (List.mem_of_getElem? (i := 8) rfl)) (hw _ (List.mem_of_getElem? (i := 2) rfl)) (by decide) (by decide)) q2a q2c (g := (mkF m 143 #[.val (.int p1), .val (.int p2), .val (.int p3), .val (.int 1), .val (.int vb), .val (.int va), .val (.ref w_TEXT_END), .val (.int 4369), .val (.int 1)] [(.int va), (.int vb), (.ref w_TEXT_END)])) rfl (by rw [hml]; rfl) (Steps.refl _) (argsL := [(.int vb), (.int va)]) (rest := []) (lenOf pd__II_Z rfl) rfl (by show 2 * 0 + _ ≤ _; exact Nat.le_of_eq rfl) (hb hby at_143) (fun _ _ => ⟨rfl, e1, (by decide : 0 + 0 ≤ _), (by decide : 0 + 0 ≤ _)⟩)
  dsimp only [Pt.U, Pt.locs, Pt.cells, Pt.slots] at X2 l2 y2 z2 st2 hQ2
  subst l2 y2 z2
  obtain ⟨rfl, N2q, e2⟩ := hQ2
  have N2 := Fr.app N0 N2q
  obtain ⟨fs, hr, hrun, hended, hW, hsame⟩ := X2.leave (v := some (.int 1)) (fun h => by rw [Bd.returns] at h; cases h)
  refine ⟨_, _, pre0 _ ?_, hrun, hended, _, _, rfl, ?_, ⟨_, rfl⟩, hW, hsame.mono (by decide) (by decide)⟩
  · show Steps p.tables e below (s₁.setTop (mkF m 0 #[.val (.int p1), .val (.int p2), .val (.int p3), .unset, .unset, .unset, .unset, .unset, .unset] [])) _
    refine XS.iloadN X0.here hx rfl (hb hby at_0) rfl ?_
    show Steps p.tables e below (s₁.setTop (mkF m 1 #[.val (.int p1), .val (.int p2), .val (.int p3), .unset, .unset, .unset, .unset, .unset, .unset] [(.int p1)])) _
    refine X0.ldcInt hx hown (mvT hZ (hw _ (List.mem_of_getElem? (i := 0) rfl))) (g := (mkF m 1 #[.val (.int p1), .val (.int p2), .val (.int p3), .unset, .unset, .unset, .unset, .unset, .unset] [(.int p1)])) rfl (hb hby at_1) _ ?_
    show Steps p.tables e below (s₁.setTop (mkF m 3 #[.val (.int p1), .val (.int p2), .val (.int p3), .unset, .unset, .unset, .unset, .unset, .unset] [(.int 2147483647), (.int p1)])) _
    refine XS.iand X0.here hx rfl (hb hby at_3) rfl ?_
    show Steps p.tables e below (s₁.setTop (mkF m 4 #[.val (.int p1), .val (.int p2), .val (.int p3), .unset, .unset, .unset, .unset, .unset, .unset] [(.int (p1 &&& (2147483647 : Int32)))])) _
    refine XS.bipush X0.here hx rfl (hb hby at_4) ?_
    show Steps p.tables e below (s₁.setTop (mkF m 6 #[.val (.int p1), .val (.int p2), .val (.int p3), .unset, .unset, .unset, .unset, .unset, .unset] [(.int 6), (.int (p1 &&& (2147483647 : Int32)))])) _
    refine iremM X0 hx rfl (hb hby at_6) rfl (by decide) ?_
    show Steps p.tables e below (s₁.setTop (mkF m 7 #[.val (.int p1), .val (.int p2), .val (.int p3), .unset, .unset, .unset, .unset, .unset, .unset] [(.int ((p1 &&& (2147483647 : Int32)) % (6 : Int32)))])) _
    rw [hk]
    show Steps p.tables e below (s₁.setTop (mkF m 7 #[.val (.int p1), .val (.int p2), .val (.int p3), .unset, .unset, .unset, .unset, .unset, .unset] [(.int 1)])) _
    refine XS.istoreN X0.here hx rfl (hb hby at_7) rfl (l' := #[.val (.int p1), .val (.int p2), .val (.int p3), .val (.int 1), .unset, .unset, .unset, .unset, .unset]) rfl ?_
    show Steps p.tables e below (s₁.setTop (mkF m 8 #[.val (.int p1), .val (.int p2), .val (.int p3), .val (.int 1), .unset, .unset, .unset, .unset, .unset] [])) _
    refine XS.iloadN X0.here hx rfl (hb hby at_8) rfl ?_
    show Steps p.tables e below (s₁.setTop (mkF m 9 #[.val (.int p1), .val (.int p2), .val (.int p3), .val (.int 1), .unset, .unset, .unset, .unset, .unset] [(.int p2)])) _
    refine XS.iconst X0.here hx rfl (hb hby at_9) ?_
    show Steps p.tables e below (s₁.setTop (mkF m 10 #[.val (.int p1), .val (.int p2), .val (.int p3), .val (.int 1), .unset, .unset, .unset, .unset, .unset] [(.int 3), (.int p2)])) _
    refine XS.iand X0.here hx rfl (hb hby at_10) rfl ?_
    show Steps p.tables e below (s₁.setTop (mkF m 11 #[.val (.int p1), .val (.int p2), .val (.int p3), .val (.int 1), .unset, .unset, .unset, .unset, .unset] [(.int (p2 &&& (3 : Int32)))])) _
    rw [hvb]
    show Steps p.tables e below (s₁.setTop (mkF m 11 #[.val (.int p1), .val (.int p2), .val (.int p3), .val (.int 1), .unset, .unset, .unset, .unset, .unset] [(.int vb)])) _
    refine XS.istore X0.here hx rfl (hb hby at_11) rfl (l' := #[.val (.int p1), .val (.int p2), .val (.int p3), .val (.int 1), .val (.int vb), .unset, .unset, .unset, .unset]) rfl ?_
    show Steps p.tables e below (s₁.setTop (mkF m 13 #[.val (.int p1), .val (.int p2), .val (.int p3), .val (.int 1), .val (.int vb), .unset, .unset, .unset, .unset] [])) _
    refine XS.iloadN X0.here hx rfl (hb hby at_13) rfl ?_
    show Steps p.tables e below (s₁.setTop (mkF m 14 #[.val (.int p1), .val (.int p2), .val (.int p3), .val (.int 1), .val (.int vb), .unset, .unset, .unset, .unset] [(.int p3)])) _
    refine XS.iconst X0.here hx rfl (hb hby at_14) ?_
    show Steps p.tables e below (s₁.setTop (mkF m 15 #[.val (.int p1), .val (.int p2), .val (.int p3), .val (.int 1), .val (.int vb), .unset, .unset, .unset, .unset] [(.int 3), (.int p3)])) _
    refine XS.iand X0.here hx rfl (hb hby at_15) rfl ?_
    show Steps p.tables e below (s₁.setTop (mkF m 16 #[.val (.int p1), .val (.int p2), .val (.int p3), .val (.int 1), .val (.int vb), .unset, .unset, .unset, .unset] [(.int (p3 &&& (3 : Int32)))])) _
    rw [hva]
    show Steps p.tables e below (s₁.setTop (mkF m 16 #[.val (.int p1), .val (.int p2), .val (.int p3), .val (.int 1), .val (.int vb), .unset, .unset, .unset, .unset] [(.int va)])) _
    refine XS.istore X0.here hx rfl (hb hby at_16) rfl (l' := #[.val (.int p1), .val (.int p2), .val (.int p3), .val (.int 1), .val (.int vb), .val (.int va), .unset, .unset, .unset]) rfl ?_
    show Steps p.tables e below (s₁.setTop (mkF m 18 #[.val (.int p1), .val (.int p2), .val (.int p3), .val (.int 1), .val (.int vb), .val (.int va), .unset, .unset, .unset] [])) _
    refine XS.iloadN X0.here hx rfl (hb hby at_18) rfl ?_
    show Steps p.tables e below (s₁.setTop (mkF m 19 #[.val (.int p1), .val (.int p2), .val (.int p3), .val (.int 1), .val (.int vb), .val (.int va), .unset, .unset, .unset] [(.int 1)])) _
    refine XS.ifYes X0.here hx rfl (pc0 := 19) (pc' := 34) rfl (hb hby at_19) rfl ((if0 _ _).trans (feq (by decide : ¬ ((1 : Int32) = (0 : Int32)))).2) (by decide) (by decide) ?_
    show Steps p.tables e below (s₁.setTop (mkF m 34 #[.val (.int p1), .val (.int p2), .val (.int p3), .val (.int 1), .val (.int vb), .val (.int va), .unset, .unset, .unset] [])) _
    refine XS.iloadN X0.here hx rfl (hb hby at_34) rfl ?_
    show Steps p.tables e below (s₁.setTop (mkF m 35 #[.val (.int p1), .val (.int p2), .val (.int p3), .val (.int 1), .val (.int vb), .val (.int va), .unset, .unset, .unset] [(.int 1)])) _
    refine XS.iconst X0.here hx rfl (hb hby at_35) ?_
    show Steps p.tables e below (s₁.setTop (mkF m 36 #[.val (.int p1), .val (.int p2), .val (.int p3), .val (.int 1), .val (.int vb), .val (.int va), .unset, .unset, .unset] [(.int 1), (.int 1)])) _
    refine XS.icmpNo X0.here hx rfl (hb hby at_36) rfl (teq (by decide : (1 : Int32) = (1 : Int32))).2 ?_
    show Steps p.tables e below (s₁.setTop (mkF m 39 #[.val (.int p1), .val (.int p2), .val (.int p3), .val (.int 1), .val (.int vb), .val (.int va), .unset, .unset, .unset] [])) _
    refine st1 _ ?_
    show Steps p.tables e below (T1.setTop (mkF m 42 #[.val (.int p1), .val (.int p2), .val (.int p3), .val (.int 1), .val (.int vb), .val (.int va), .unset, .unset, .unset] [(.ref w_TEXT_END)])) _
    refine XS.astore X1.here hx rfl (hb hby at_42) rfl rfl (l' := #[.val (.int p1), .val (.int p2), .val (.int p3), .val (.int 1), .val (.int vb), .val (.int va), .val (.ref w_TEXT_END), .unset, .unset]) rfl ?_
    show Steps p.tables e below (T1.setTop (mkF m 44 #[.val (.int p1), .val (.int p2), .val (.int p3), .val (.int 1), .val (.int vb), .val (.int va), .val (.ref w_TEXT_END), .unset, .unset] [])) _
    refine XS.sipush X1.here hx rfl (hb hby at_44) ?_
    show Steps p.tables e below (T1.setTop (mkF m 47 #[.val (.int p1), .val (.int p2), .val (.int p3), .val (.int 1), .val (.int vb), .val (.int va), .val (.ref w_TEXT_END), .unset, .unset] [(.int 4369)])) _
    refine XS.istore X1.here hx rfl (hb hby at_47) rfl (l' := #[.val (.int p1), .val (.int p2), .val (.int p3), .val (.int 1), .val (.int vb), .val (.int va), .val (.ref w_TEXT_END), .val (.int 4369), .unset]) rfl ?_
    show Steps p.tables e below (T1.setTop (mkF m 49 #[.val (.int p1), .val (.int p2), .val (.int p3), .val (.int 1), .val (.int vb), .val (.int va), .val (.ref w_TEXT_END), .val (.int 4369), .unset] [])) _
    refine XS.goto X1.here hx rfl (pc0 := 49) (pc' := 115) rfl (hb hby at_49) (by decide) (by decide) ?_
    show Steps p.tables e below (T1.setTop (mkF m 115 #[.val (.int p1), .val (.int p2), .val (.int p3), .val (.int 1), .val (.int vb), .val (.int va), .val (.ref w_TEXT_END), .val (.int 4369), .unset] [])) _
    refine XS.iload X1.here hx rfl (hb hby at_115) rfl ?_
    show Steps p.tables e below (T1.setTop (mkF m 117 #[.val (.int p1), .val (.int p2), .val (.int p3), .val (.int 1), .val (.int vb), .val (.int va), .val (.ref w_TEXT_END), .val (.int 4369), .unset] [(.int 4369)])) _
    refine XS.iload X1.here hx rfl (hb hby at_117) rfl ?_
    show Steps p.tables e below (T1.setTop (mkF m 119 #[.val (.int p1), .val (.int p2), .val (.int p3), .val (.int 1), .val (.int vb), .val (.int va), .val (.ref w_TEXT_END), .val (.int 4369), .unset] [(.int vb), (.int 4369)])) _
    refine XS.iconst X1.here hx rfl (hb hby at_119) ?_
    show Steps p.tables e below (T1.setTop (mkF m 120 #[.val (.int p1), .val (.int p2), .val (.int p3), .val (.int 1), .val (.int vb), .val (.int va), .val (.ref w_TEXT_END), .val (.int 4369), .unset] [(.int 4), (.int vb), (.int 4369)])) _
    refine XS.imul X1.here hx rfl (hb hby at_120) rfl ?_
    show Steps p.tables e below (T1.setTop (mkF m 121 #[.val (.int p1), .val (.int p2), .val (.int p3), .val (.int 1), .val (.int vb), .val (.int va), .val (.ref w_TEXT_END), .val (.int 4369), .unset] [(.int (vb * (4 : Int32))), (.int 4369)])) _
    refine XS.iload X1.here hx rfl (hb hby at_121) rfl ?_
    show Steps p.tables e below (T1.setTop (mkF m 123 #[.val (.int p1), .val (.int p2), .val (.int p3), .val (.int 1), .val (.int vb), .val (.int va), .val (.ref w_TEXT_END), .val (.int 4369), .unset] [(.int va), (.int (vb * (4 : Int32))), (.int 4369)])) _
    refine XS.iadd X1.here hx rfl (hb hby at_123) rfl ?_
    show Steps p.tables e below (T1.setTop (mkF m 124 #[.val (.int p1), .val (.int p2), .val (.int p3), .val (.int 1), .val (.int vb), .val (.int va), .val (.ref w_TEXT_END), .val (.int 4369), .unset] [(.int ((vb * (4 : Int32)) + va)), (.int 4369)])) _
    refine XS.iushr X1.here hx rfl (hb hby at_124) rfl ?_
    show Steps p.tables e below (T1.setTop (mkF m 125 #[.val (.int p1), .val (.int p2), .val (.int p3), .val (.int 1), .val (.int vb), .val (.int va), .val (.ref w_TEXT_END), .val (.int 4369), .unset] [(.int (((4369 : Int32).toUInt32 >>> (((vb * (4 : Int32)) + va) &&& 31).toUInt32).toInt32))])) _
    refine XS.iconst X1.here hx rfl (hb hby at_125) ?_
    show Steps p.tables e below (T1.setTop (mkF m 126 #[.val (.int p1), .val (.int p2), .val (.int p3), .val (.int 1), .val (.int vb), .val (.int va), .val (.ref w_TEXT_END), .val (.int 4369), .unset] [(.int 1), (.int (((4369 : Int32).toUInt32 >>> (((vb * (4 : Int32)) + va) &&& 31).toUInt32).toInt32))])) _
    refine XS.iand X1.here hx rfl (hb hby at_126) rfl ?_
    show Steps p.tables e below (T1.setTop (mkF m 127 #[.val (.int p1), .val (.int p2), .val (.int p3), .val (.int 1), .val (.int vb), .val (.int va), .val (.ref w_TEXT_END), .val (.int 4369), .unset] [(.int ((((4369 : Int32).toUInt32 >>> (((vb * (4 : Int32)) + va) &&& 31).toUInt32).toInt32) &&& (1 : Int32)))])) _
    rw [he]
    show Steps p.tables e below (T1.setTop (mkF m 127 #[.val (.int p1), .val (.int p2), .val (.int p3), .val (.int 1), .val (.int vb), .val (.int va), .val (.ref w_TEXT_END), .val (.int 4369), .unset] [(.int 1)])) _
    refine XS.ifNo X1.here hx rfl (hb hby at_127) rfl ((if0 _ _).trans (feq (by decide : ¬ ((1 : Int32) = (0 : Int32)))).1) ?_
    show Steps p.tables e below (T1.setTop (mkF m 130 #[.val (.int p1), .val (.int p2), .val (.int p3), .val (.int 1), .val (.int vb), .val (.int va), .val (.ref w_TEXT_END), .val (.int 4369), .unset] [])) _
    refine XS.iconst X1.here hx rfl (hb hby at_130) ?_
    show Steps p.tables e below (T1.setTop (mkF m 131 #[.val (.int p1), .val (.int p2), .val (.int p3), .val (.int 1), .val (.int vb), .val (.int va), .val (.ref w_TEXT_END), .val (.int 4369), .unset] [(.int 1)])) _
    refine XS.goto X1.here hx rfl (pc0 := 131) (pc' := 135) rfl (hb hby at_131) (by decide) (by decide) ?_
    show Steps p.tables e below (T1.setTop (mkF m 135 #[.val (.int p1), .val (.int p2), .val (.int p3), .val (.int 1), .val (.int vb), .val (.int va), .val (.ref w_TEXT_END), .val (.int 4369), .unset] [(.int 1)])) _
    refine XS.istore X1.here hx rfl (hb hby at_135) rfl (l' := #[.val (.int p1), .val (.int p2), .val (.int p3), .val (.int 1), .val (.int vb), .val (.int va), .val (.ref w_TEXT_END), .val (.int 4369), .val (.int 1)]) rfl ?_
    show Steps p.tables e below (T1.setTop (mkF m 137 #[.val (.int p1), .val (.int p2), .val (.int p3), .val (.int 1), .val (.int vb), .val (.int va), .val (.ref w_TEXT_END), .val (.int 4369), .val (.int 1)] [])) _
    refine XS.aload X1.here hx rfl (hb hby at_137) rfl rfl ?_
    show Steps p.tables e below (T1.setTop (mkF m 139 #[.val (.int p1), .val (.int p2), .val (.int p3), .val (.int 1), .val (.int vb), .val (.int va), .val (.ref w_TEXT_END), .val (.int 4369), .val (.int 1)] [(.ref w_TEXT_END)])) _
    refine XS.iload X1.here hx rfl (hb hby at_139) rfl ?_
    show Steps p.tables e below (T1.setTop (mkF m 141 #[.val (.int p1), .val (.int p2), .val (.int p3), .val (.int 1), .val (.int vb), .val (.int va), .val (.ref w_TEXT_END), .val (.int 4369), .val (.int 1)] [(.int vb), (.ref w_TEXT_END)])) _
    refine XS.iload X1.here hx rfl (hb hby at_141) rfl ?_
    show Steps p.tables e below (T1.setTop (mkF m 143 #[.val (.int p1), .val (.int p2), .val (.int p3), .val (.int 1), .val (.int vb), .val (.int va), .val (.ref w_TEXT_END), .val (.int 4369), .val (.int 1)] [(.int va), (.int vb), (.ref w_TEXT_END)])) _
    refine st2.trans ?_
    show Steps p.tables e below (T2.setTop (mkF m 146 #[.val (.int p1), .val (.int p2), .val (.int p3), .val (.int 1), .val (.int vb), .val (.int va), .val (.ref w_TEXT_END), .val (.int 4369), .val (.int 1)] [(.int 1)])) _
    refine XS.iload X2.here hx rfl (hb hby at_146) rfl ?_
    show Steps p.tables e below (T2.setTop (mkF m 148 #[.val (.int p1), .val (.int p2), .val (.int p3), .val (.int 1), .val (.int vb), .val (.int va), .val (.ref w_TEXT_END), .val (.int 4369), .val (.int 1)] [(.int 1), (.int 1)])) _
    refine XS.icmpNo X2.here hx rfl (hb hby at_148) rfl (teq (by decide : (1 : Int32) = (1 : Int32))).2 ?_
    show Steps p.tables e below (T2.setTop (mkF m 151 #[.val (.int p1), .val (.int p2), .val (.int p3), .val (.int 1), .val (.int vb), .val (.int va), .val (.ref w_TEXT_END), .val (.int 4369), .val (.int 1)] [])) _
    refine XS.iconst X2.here hx rfl (hb hby at_151) ?_
    show Steps p.tables e below (T2.setTop (mkF m 152 #[.val (.int p1), .val (.int p2), .val (.int p3), .val (.int 1), .val (.int vb), .val (.int va), .val (.ref w_TEXT_END), .val (.int 4369), .val (.int 1)] [(.int 1)])) _
    refine XS.goto X2.here hx rfl (pc0 := 152) (pc' := 156) rfl (hb hby at_152) (by decide) (by decide) ?_
    show Steps p.tables e below (T2.setTop (mkF m 156 #[.val (.int p1), .val (.int p2), .val (.int p3), .val (.int 1), .val (.int vb), .val (.int va), .val (.ref w_TEXT_END), .val (.int 4369), .val (.int 1)] [(.int 1)])) _
    exact retN X2 hx (t := .boolean) Bd.returns (by simp) (hb hby at_156) hr
  · show Q0_k1f Z p1 p2 p3 vb va w_TEXT_END h0 n0 _ T2.heap _
    rw [e2]
    exact ⟨rfl, N2, rfl⟩
def Q1_w_TEXT_END_vb_va_rt (Z : State) (w_TEXT_END : Addr) (vb : Int32) (va : Int32) (h0 : Heap) (n0 : Nat) (v : Option Value) (h : Heap) (L : List Loc) : Prop := v = some (.int 0) ∧ Fr n0 L ∧ h = h0
set_option maxRecDepth 65536 in
set_option maxHeartbeats 40000000 in
theorem rm1_w_TEXT_END_vb_va_rt (l : Launch) (Z : State) (a0 : Array Value) (hw : ∀ d ∈ tables_1, d.before a0 Z = true) (ws : List Jvm.Cond) (w_TEXT_END : Addr) (vb : Int32) (va : Int32) (h0 : Heap) (n0 : Nat) (Z0 : n0 ≤ h0.size) (F_ordinal_w_TEXT_END : Fld Z h0 w_TEXT_END "java/lang/Enum" "ordinal" "I" (.int 1)) (E_w_TEXT_END : Exa Z h0 w_TEXT_END "com/example/termwell/termwell/core/text/RegexNode$Anchor") (hc67 : ¬ (va = (0 : Int32))) :
    MetFree l (⟨"com/example/termwell/termwell/core/text/RegexNode$Anchor", "holds", "(II)Z"⟩ : MethodName) (head1 (Jvm.Cond.code (⟨"com/example/termwell/termwell/core/text/RegexNode$Anchor", "holds", "(II)Z"⟩ : MethodName) prog_28_method_5_code 3 (some .boolean) :: ws) ({ frames := 1, cells := 0, slots := 0, locals := 12 } : Room)) (fun a U => a = #[(.ref w_TEXT_END), (.int vb), (.int va)] ∧ Z.Warmed39 U.vm ∧ U.heap = h0) (fun _ _ _ _ _ => True) (fun _ U o U' => ∃ v L, o = .returned v ∧ Q1_w_TEXT_END_vb_va_rt Z w_TEXT_END vb va h0 n0 v U'.heap L ∧ FrameEnd U o U' L ({ frames := 1, cells := 0, slots := 0, locals := 12 } : Room).cells ({ frames := 1, cells := 0, slots := 0, locals := 12 } : Room).slots) := by
  refine MetFree.of_bodySF (plainFor_of_name pn_1) hisR ?_
  intro p e s m args below meth c s₁ Bd hml0 hP hK
  obtain ⟨rfl, hZ, hh⟩ := hP
  have hx := Bd.exec
  have hby := Bd.bytes
  have hml : c.maxLocals = 3 := hml0
  have hown : s.vm.findClass "com/example/termwell/termwell/core/text/RegexNode$Anchor" = some m.cls := findClass_of_methodNamed Bd.named
  have hnm := (name_of_methodNamed Bd.named Bd.method).1
  have X0 : Stand p l e ({ frames := 1, cells := 0, slots := 0, locals := 12 } : Room) s m #[(.ref w_TEXT_END), (.int vb), (.int va)] below meth c s₁ [] 0 0 := Stand.of_body Bd
  have e0 : s₁.heap = h0 := by rw [← hh, Bd.state]; rfl
  have N0 := Fr.nil n0
  have pre0 : ∀ t, Steps p.tables e below (s₁.setTop (mkF m 0 #[.val (.ref w_TEXT_END), .val (.int vb), .val (.int va)] [])) t → Steps p.tables e below (s₁.setTop (entryFrame m #[(.ref w_TEXT_END), (.int vb), (.int va)] 3)) t := fun t k => castTop (by first | (simp [entryFrame, mkF, argsToLocals, Value.category]; done) | rfl) k
  obtain ⟨cq1, kq1, q1a, q1b, q1c⟩ := isOf hZ e0 E_w_TEXT_END
  obtain ⟨_, _, ⟨T1, L1, k1, n1⟩, -, X1, ⟨Lc1, hQ1, l1, y1, z1⟩, st1⟩ := X0.virtualBackUp hx (x := (⟨"com/example/termwell/termwell/core/text/RegexNode$Anchor", "ordinal", "()I"⟩ : MethodName)) (y := (⟨"java/lang/Enum", "ordinal", "()I"⟩ : MethodName)) (owner := "java/lang/Enum") hown (mvT hZ (hw _ (List.mem_of_getElem? (i := 9) rfl))) (mvT hZ (hw _ (List.mem_of_getElem? (i := 10) rfl))) (mvT hZ (hw _ (List.mem_of_getElem? (i := 11) rfl))) (by decide) (mvT hZ (hw _ (List.mem_of_getElem? (i := 13) rfl))) (mvT hZ (hw _ (List.mem_of_getElem? (i := 12) rfl))) (backOf (W := 0) (rm2_w_TEXT_END l Z a0 hw [] w_TEXT_END h0 n0 Z0 F_ordinal_w_TEXT_END) hZ (hw _ (List.mem_of_getElem? (i := 15) rfl)) (hw _ (List.mem_of_getElem? (i := 14) rfl)) (by decide) (by decide)) q1a q1c (g := (mkF m 1 #[.val (.ref w_TEXT_END), .val (.int vb), .val (.int va)] [(.ref w_TEXT_END)])) rfl (by rw [hml]; rfl) (Steps.refl _) (argsL := []) (rest := []) (lenOf pd___I rfl) rfl (by show 2 * 0 + _ ≤ _; exact Nat.le_of_eq rfl) (hb hby d1_1) (fun _ _ => ⟨rfl, e0, (by decide : 0 + 0 ≤ _), (by decide : 0 + 0 ≤ _)⟩)
  dsimp only [Pt.U, Pt.locs, Pt.cells, Pt.slots] at X1 l1 y1 z1 st1 hQ1
  subst l1 y1 z1
  obtain ⟨rfl, N1q, e1⟩ := hQ1
  have N1 := Fr.app N0 N1q
  obtain ⟨fs, hr, hrun, hended, hW, hsame⟩ := X1.leave (v := some (.int 0)) (fun h => by rw [Bd.returns] at h; cases h)
  refine ⟨_, _, pre0 _ ?_, hrun, hended, _, _, rfl, ?_, ⟨_, rfl⟩, hW, hsame.mono (by decide) (by decide)⟩
  · show Steps p.tables e below (s₁.setTop (mkF m 0 #[.val (.ref w_TEXT_END), .val (.int vb), .val (.int va)] [])) _
    refine XS.aloadN X0.here hx rfl (hb hby d1_0) rfl rfl ?_
    show Steps p.tables e below (s₁.setTop (mkF m 1 #[.val (.ref w_TEXT_END), .val (.int vb), .val (.int va)] [(.ref w_TEXT_END)])) _
    refine st1.trans ?_
    show Steps p.tables e below (T1.setTop (mkF m 4 #[.val (.ref w_TEXT_END), .val (.int vb), .val (.int va)] [(.int 1)])) _
    refine XS.tswIn X1.here hx rfl (pc0 := 4) (pc' := 66) rfl (hb hby d1_4) rfl (by decide) (o := 62) (by decide) (by decide) (by decide) ?_
    show Steps p.tables e below (T1.setTop (mkF m 66 #[.val (.ref w_TEXT_END), .val (.int vb), .val (.int va)] [])) _
    refine XS.iloadN X1.here hx rfl (hb hby d1_66) rfl ?_
    show Steps p.tables e below (T1.setTop (mkF m 67 #[.val (.ref w_TEXT_END), .val (.int vb), .val (.int va)] [(.int va)])) _
    refine XS.ifYes X1.here hx rfl (pc0 := 67) (pc' := 74) rfl (hb hby d1_67) rfl ((if0 _ _).trans (feq hc67).2) (by decide) (by decide) ?_
    show Steps p.tables e below (T1.setTop (mkF m 74 #[.val (.ref w_TEXT_END), .val (.int vb), .val (.int va)] [])) _
    refine XS.iconst X1.here hx rfl (hb hby d1_74) ?_
    show Steps p.tables e below (T1.setTop (mkF m 75 #[.val (.ref w_TEXT_END), .val (.int vb), .val (.int va)] [(.int 0)])) _
    refine XS.goto X1.here hx rfl (pc0 := 75) (pc' := 171) rfl (hb hby d1_75) (by decide) (by decide) ?_
    show Steps p.tables e below (T1.setTop (mkF m 171 #[.val (.ref w_TEXT_END), .val (.int vb), .val (.int va)] [(.int 0)])) _
    exact retN X1 hx (t := .boolean) Bd.returns (by simp) (hb hby d1_171) hr
  · show Q1_w_TEXT_END_vb_va_rt Z w_TEXT_END vb va h0 n0 _ T1.heap _
    rw [e1]
    exact ⟨rfl, N1, rfl⟩
def Q0_k1t (Z : State) (p1 : Int32) (p2 : Int32) (p3 : Int32) (vb : Int32) (va : Int32) (w_TEXT_END : Addr) (h0 : Heap) (n0 : Nat) (v : Option Value) (h : Heap) (L : List Loc) : Prop := v = some (.int 1) ∧ Fr n0 L ∧ h = h0
set_option maxRecDepth 65536 in
set_option maxHeartbeats 40000000 in
theorem rm0_k1t (l : Launch) (Z : State) (a0 : Array Value) (hw : ∀ d ∈ tables_1, d.before a0 Z = true) (ws : List Jvm.Cond) (p1 : Int32) (p2 : Int32) (p3 : Int32) (vb : Int32) (va : Int32) (w_TEXT_END : Addr) (h0 : Heap) (n0 : Nat) (Z0 : n0 ≤ h0.size) (hk : ((p1 &&& (2147483647 : Int32)) % (6 : Int32)) = (1 : Int32)) (hvb : (p2 &&& (3 : Int32)) = vb) (hva : (p3 &&& (3 : Int32)) = va) (S_TEXT_END : Sta Z h0 "com/example/termwell/termwell/core/text/RegexNode$Anchor" "TEXT_END" "Lcom/example/termwell/termwell/core/text/RegexNode$Anchor;" (.ref w_TEXT_END)) (he : ((((4369 : Int32).toUInt32 >>> (((vb * (4 : Int32)) + va) &&& 31).toUInt32).toInt32) &&& (1 : Int32)) = (0 : Int32)) (F_ordinal_w_TEXT_END : Fld Z h0 w_TEXT_END "java/lang/Enum" "ordinal" "I" (.int 1)) (E_w_TEXT_END : Exa Z h0 w_TEXT_END "com/example/termwell/termwell/core/text/RegexNode$Anchor") (hc67 : ¬ (va = (0 : Int32))) :
    MetFree l x (head1 (Jvm.Cond.code x code maxLocals ret :: ws) room_1) (fun a U => a = #[(.int p1), (.int p2), (.int p3)] ∧ Z.Warmed39 U.vm ∧ U.heap = h0) (fun _ _ _ _ _ => True) (fun _ U o U' => ∃ v L, o = .returned v ∧ Q0_k1t Z p1 p2 p3 vb va w_TEXT_END h0 n0 v U'.heap L ∧ FrameEnd U o U' L room_1.cells room_1.slots) := by
  refine MetFree.of_bodySF (plainFor_of_name pn_0) hisR ?_
  intro p e s m args below meth c s₁ Bd hml0 hP hK
  obtain ⟨rfl, hZ, hh⟩ := hP
  have hx := Bd.exec
  have hby := Bd.bytes
  have hml : c.maxLocals = 9 := hml0
  have hown : s.vm.findClass "com/example/termwell/termwell/core/text/AnchorHoldsPinLaw" = some m.cls := findClass_of_methodNamed Bd.named
  have hnm := (name_of_methodNamed Bd.named Bd.method).1
  have X0 : Stand p l e room_1 s m #[(.int p1), (.int p2), (.int p3)] below meth c s₁ [] 0 0 := Stand.of_body Bd
  have e0 : s₁.heap = h0 := by rw [← hh, Bd.state]; rfl
  have N0 := Fr.nil n0
  have pre0 : ∀ t, Steps p.tables e below (s₁.setTop (mkF m 0 #[.val (.int p1), .val (.int p2), .val (.int p3), .unset, .unset, .unset, .unset, .unset, .unset] [])) t → Steps p.tables e below (s₁.setTop (entryFrame m #[(.int p1), (.int p2), (.int p3)] maxLocals)) t := fun t k => castTop (by first | (simp [entryFrame, mkF, argsToLocals, Value.category, maxLocals]; done) | rfl) k
  obtain ⟨T1, X1, e1, st1⟩ := getS2 X0 hx hZ hown (host := "") (Or.inl (hw _ (List.mem_of_getElem? (i := 18) rfl))) Via.refl e0 S_TEXT_END (g := (mkF m 39 #[.val (.int p1), .val (.int p2), .val (.int p3), .val (.int 1), .val (.int vb), .val (.int va), .unset, .unset, .unset] [])) rfl (hb hby at_39)
  obtain ⟨cq2, kq2, q2a, q2b, q2c⟩ := isOf hZ e1 E_w_TEXT_END
  obtain ⟨_, _, ⟨T2, L2, k2, n2⟩, -, X2, ⟨Lc2, hQ2, l2, y2, z2⟩, st2⟩ := X1.virtualBack hx (y := (⟨"com/example/termwell/termwell/core/text/RegexNode$Anchor", "holds", "(II)Z"⟩ : MethodName)) (z := (⟨"com/example/termwell/termwell/core/text/RegexNode$Anchor", "holds", "(II)Z"⟩ : MethodName)) hown (mvT hZ (hw _ (List.mem_of_getElem? (i := 4) rfl))) (mvT hZ (hw _ (List.mem_of_getElem? (i := 5) rfl))) (notFace_of_selects (args := #[]) (mvT hZ (hw _ (List.mem_of_getElem? (i := 7) rfl)))) (mvT hZ (hw _ (List.mem_of_getElem? (i := 7) rfl))) (mvT hZ (hw _ (List.mem_of_getElem? (i := 6) rfl))) (by decide) (backOf (W := 0) (rm1_w_TEXT_END_vb_va_rt l Z a0 hw [] w_TEXT_END vb va h0 n0 Z0 F_ordinal_w_TEXT_END E_w_TEXT_END hc67) hZ (hw _ (List.mem_of_getElem? (i := 8) rfl)) (hw _ (List.mem_of_getElem? (i := 2) rfl)) (by decide) (by decide)) q2a q2c (g := (mkF m 143 #[.val (.int p1), .val (.int p2), .val (.int p3), .val (.int 1), .val (.int vb), .val (.int va), .val (.ref w_TEXT_END), .val (.int 4369), .val (.int 0)] [(.int va), (.int vb), (.ref w_TEXT_END)])) rfl (by rw [hml]; rfl) (Steps.refl _) (argsL := [(.int vb), (.int va)]) (rest := []) (lenOf pd__II_Z rfl) rfl (by show 2 * 0 + _ ≤ _; exact Nat.le_of_eq rfl) (hb hby at_143) (fun _ _ => ⟨rfl, e1, (by decide : 0 + 0 ≤ _), (by decide : 0 + 0 ≤ _)⟩)
  dsimp only [Pt.U, Pt.locs, Pt.cells, Pt.slots] at X2 l2 y2 z2 st2 hQ2
  subst l2 y2 z2
  obtain ⟨rfl, N2q, e2⟩ := hQ2
  have N2 := Fr.app N0 N2q
  obtain ⟨fs, hr, hrun, hended, hW, hsame⟩ := X2.leave (v := some (.int 1)) (fun h => by rw [Bd.returns] at h; cases h)
  refine ⟨_, _, pre0 _ ?_, hrun, hended, _, _, rfl, ?_, ⟨_, rfl⟩, hW, hsame.mono (by decide) (by decide)⟩
  · show Steps p.tables e below (s₁.setTop (mkF m 0 #[.val (.int p1), .val (.int p2), .val (.int p3), .unset, .unset, .unset, .unset, .unset, .unset] [])) _
    refine XS.iloadN X0.here hx rfl (hb hby at_0) rfl ?_
    show Steps p.tables e below (s₁.setTop (mkF m 1 #[.val (.int p1), .val (.int p2), .val (.int p3), .unset, .unset, .unset, .unset, .unset, .unset] [(.int p1)])) _
    refine X0.ldcInt hx hown (mvT hZ (hw _ (List.mem_of_getElem? (i := 0) rfl))) (g := (mkF m 1 #[.val (.int p1), .val (.int p2), .val (.int p3), .unset, .unset, .unset, .unset, .unset, .unset] [(.int p1)])) rfl (hb hby at_1) _ ?_
    show Steps p.tables e below (s₁.setTop (mkF m 3 #[.val (.int p1), .val (.int p2), .val (.int p3), .unset, .unset, .unset, .unset, .unset, .unset] [(.int 2147483647), (.int p1)])) _
    refine XS.iand X0.here hx rfl (hb hby at_3) rfl ?_
    show Steps p.tables e below (s₁.setTop (mkF m 4 #[.val (.int p1), .val (.int p2), .val (.int p3), .unset, .unset, .unset, .unset, .unset, .unset] [(.int (p1 &&& (2147483647 : Int32)))])) _
    refine XS.bipush X0.here hx rfl (hb hby at_4) ?_
    show Steps p.tables e below (s₁.setTop (mkF m 6 #[.val (.int p1), .val (.int p2), .val (.int p3), .unset, .unset, .unset, .unset, .unset, .unset] [(.int 6), (.int (p1 &&& (2147483647 : Int32)))])) _
    refine iremM X0 hx rfl (hb hby at_6) rfl (by decide) ?_
    show Steps p.tables e below (s₁.setTop (mkF m 7 #[.val (.int p1), .val (.int p2), .val (.int p3), .unset, .unset, .unset, .unset, .unset, .unset] [(.int ((p1 &&& (2147483647 : Int32)) % (6 : Int32)))])) _
    rw [hk]
    show Steps p.tables e below (s₁.setTop (mkF m 7 #[.val (.int p1), .val (.int p2), .val (.int p3), .unset, .unset, .unset, .unset, .unset, .unset] [(.int 1)])) _
    refine XS.istoreN X0.here hx rfl (hb hby at_7) rfl (l' := #[.val (.int p1), .val (.int p2), .val (.int p3), .val (.int 1), .unset, .unset, .unset, .unset, .unset]) rfl ?_
    show Steps p.tables e below (s₁.setTop (mkF m 8 #[.val (.int p1), .val (.int p2), .val (.int p3), .val (.int 1), .unset, .unset, .unset, .unset, .unset] [])) _
    refine XS.iloadN X0.here hx rfl (hb hby at_8) rfl ?_
    show Steps p.tables e below (s₁.setTop (mkF m 9 #[.val (.int p1), .val (.int p2), .val (.int p3), .val (.int 1), .unset, .unset, .unset, .unset, .unset] [(.int p2)])) _
    refine XS.iconst X0.here hx rfl (hb hby at_9) ?_
    show Steps p.tables e below (s₁.setTop (mkF m 10 #[.val (.int p1), .val (.int p2), .val (.int p3), .val (.int 1), .unset, .unset, .unset, .unset, .unset] [(.int 3), (.int p2)])) _
    refine XS.iand X0.here hx rfl (hb hby at_10) rfl ?_
    show Steps p.tables e below (s₁.setTop (mkF m 11 #[.val (.int p1), .val (.int p2), .val (.int p3), .val (.int 1), .unset, .unset, .unset, .unset, .unset] [(.int (p2 &&& (3 : Int32)))])) _
    rw [hvb]
    show Steps p.tables e below (s₁.setTop (mkF m 11 #[.val (.int p1), .val (.int p2), .val (.int p3), .val (.int 1), .unset, .unset, .unset, .unset, .unset] [(.int vb)])) _
    refine XS.istore X0.here hx rfl (hb hby at_11) rfl (l' := #[.val (.int p1), .val (.int p2), .val (.int p3), .val (.int 1), .val (.int vb), .unset, .unset, .unset, .unset]) rfl ?_
    show Steps p.tables e below (s₁.setTop (mkF m 13 #[.val (.int p1), .val (.int p2), .val (.int p3), .val (.int 1), .val (.int vb), .unset, .unset, .unset, .unset] [])) _
    refine XS.iloadN X0.here hx rfl (hb hby at_13) rfl ?_
    show Steps p.tables e below (s₁.setTop (mkF m 14 #[.val (.int p1), .val (.int p2), .val (.int p3), .val (.int 1), .val (.int vb), .unset, .unset, .unset, .unset] [(.int p3)])) _
    refine XS.iconst X0.here hx rfl (hb hby at_14) ?_
    show Steps p.tables e below (s₁.setTop (mkF m 15 #[.val (.int p1), .val (.int p2), .val (.int p3), .val (.int 1), .val (.int vb), .unset, .unset, .unset, .unset] [(.int 3), (.int p3)])) _
    refine XS.iand X0.here hx rfl (hb hby at_15) rfl ?_
    show Steps p.tables e below (s₁.setTop (mkF m 16 #[.val (.int p1), .val (.int p2), .val (.int p3), .val (.int 1), .val (.int vb), .unset, .unset, .unset, .unset] [(.int (p3 &&& (3 : Int32)))])) _
    rw [hva]
    show Steps p.tables e below (s₁.setTop (mkF m 16 #[.val (.int p1), .val (.int p2), .val (.int p3), .val (.int 1), .val (.int vb), .unset, .unset, .unset, .unset] [(.int va)])) _
    refine XS.istore X0.here hx rfl (hb hby at_16) rfl (l' := #[.val (.int p1), .val (.int p2), .val (.int p3), .val (.int 1), .val (.int vb), .val (.int va), .unset, .unset, .unset]) rfl ?_
    show Steps p.tables e below (s₁.setTop (mkF m 18 #[.val (.int p1), .val (.int p2), .val (.int p3), .val (.int 1), .val (.int vb), .val (.int va), .unset, .unset, .unset] [])) _
    refine XS.iloadN X0.here hx rfl (hb hby at_18) rfl ?_
    show Steps p.tables e below (s₁.setTop (mkF m 19 #[.val (.int p1), .val (.int p2), .val (.int p3), .val (.int 1), .val (.int vb), .val (.int va), .unset, .unset, .unset] [(.int 1)])) _
    refine XS.ifYes X0.here hx rfl (pc0 := 19) (pc' := 34) rfl (hb hby at_19) rfl ((if0 _ _).trans (feq (by decide : ¬ ((1 : Int32) = (0 : Int32)))).2) (by decide) (by decide) ?_
    show Steps p.tables e below (s₁.setTop (mkF m 34 #[.val (.int p1), .val (.int p2), .val (.int p3), .val (.int 1), .val (.int vb), .val (.int va), .unset, .unset, .unset] [])) _
    refine XS.iloadN X0.here hx rfl (hb hby at_34) rfl ?_
    show Steps p.tables e below (s₁.setTop (mkF m 35 #[.val (.int p1), .val (.int p2), .val (.int p3), .val (.int 1), .val (.int vb), .val (.int va), .unset, .unset, .unset] [(.int 1)])) _
    refine XS.iconst X0.here hx rfl (hb hby at_35) ?_
    show Steps p.tables e below (s₁.setTop (mkF m 36 #[.val (.int p1), .val (.int p2), .val (.int p3), .val (.int 1), .val (.int vb), .val (.int va), .unset, .unset, .unset] [(.int 1), (.int 1)])) _
    refine XS.icmpNo X0.here hx rfl (hb hby at_36) rfl (teq (by decide : (1 : Int32) = (1 : Int32))).2 ?_
    show Steps p.tables e below (s₁.setTop (mkF m 39 #[.val (.int p1), .val (.int p2), .val (.int p3), .val (.int 1), .val (.int vb), .val (.int va), .unset, .unset, .unset] [])) _
    refine st1 _ ?_
    show Steps p.tables e below (T1.setTop (mkF m 42 #[.val (.int p1), .val (.int p2), .val (.int p3), .val (.int 1), .val (.int vb), .val (.int va), .unset, .unset, .unset] [(.ref w_TEXT_END)])) _
    refine XS.astore X1.here hx rfl (hb hby at_42) rfl rfl (l' := #[.val (.int p1), .val (.int p2), .val (.int p3), .val (.int 1), .val (.int vb), .val (.int va), .val (.ref w_TEXT_END), .unset, .unset]) rfl ?_
    show Steps p.tables e below (T1.setTop (mkF m 44 #[.val (.int p1), .val (.int p2), .val (.int p3), .val (.int 1), .val (.int vb), .val (.int va), .val (.ref w_TEXT_END), .unset, .unset] [])) _
    refine XS.sipush X1.here hx rfl (hb hby at_44) ?_
    show Steps p.tables e below (T1.setTop (mkF m 47 #[.val (.int p1), .val (.int p2), .val (.int p3), .val (.int 1), .val (.int vb), .val (.int va), .val (.ref w_TEXT_END), .unset, .unset] [(.int 4369)])) _
    refine XS.istore X1.here hx rfl (hb hby at_47) rfl (l' := #[.val (.int p1), .val (.int p2), .val (.int p3), .val (.int 1), .val (.int vb), .val (.int va), .val (.ref w_TEXT_END), .val (.int 4369), .unset]) rfl ?_
    show Steps p.tables e below (T1.setTop (mkF m 49 #[.val (.int p1), .val (.int p2), .val (.int p3), .val (.int 1), .val (.int vb), .val (.int va), .val (.ref w_TEXT_END), .val (.int 4369), .unset] [])) _
    refine XS.goto X1.here hx rfl (pc0 := 49) (pc' := 115) rfl (hb hby at_49) (by decide) (by decide) ?_
    show Steps p.tables e below (T1.setTop (mkF m 115 #[.val (.int p1), .val (.int p2), .val (.int p3), .val (.int 1), .val (.int vb), .val (.int va), .val (.ref w_TEXT_END), .val (.int 4369), .unset] [])) _
    refine XS.iload X1.here hx rfl (hb hby at_115) rfl ?_
    show Steps p.tables e below (T1.setTop (mkF m 117 #[.val (.int p1), .val (.int p2), .val (.int p3), .val (.int 1), .val (.int vb), .val (.int va), .val (.ref w_TEXT_END), .val (.int 4369), .unset] [(.int 4369)])) _
    refine XS.iload X1.here hx rfl (hb hby at_117) rfl ?_
    show Steps p.tables e below (T1.setTop (mkF m 119 #[.val (.int p1), .val (.int p2), .val (.int p3), .val (.int 1), .val (.int vb), .val (.int va), .val (.ref w_TEXT_END), .val (.int 4369), .unset] [(.int vb), (.int 4369)])) _
    refine XS.iconst X1.here hx rfl (hb hby at_119) ?_
    show Steps p.tables e below (T1.setTop (mkF m 120 #[.val (.int p1), .val (.int p2), .val (.int p3), .val (.int 1), .val (.int vb), .val (.int va), .val (.ref w_TEXT_END), .val (.int 4369), .unset] [(.int 4), (.int vb), (.int 4369)])) _
    refine XS.imul X1.here hx rfl (hb hby at_120) rfl ?_
    show Steps p.tables e below (T1.setTop (mkF m 121 #[.val (.int p1), .val (.int p2), .val (.int p3), .val (.int 1), .val (.int vb), .val (.int va), .val (.ref w_TEXT_END), .val (.int 4369), .unset] [(.int (vb * (4 : Int32))), (.int 4369)])) _
    refine XS.iload X1.here hx rfl (hb hby at_121) rfl ?_
    show Steps p.tables e below (T1.setTop (mkF m 123 #[.val (.int p1), .val (.int p2), .val (.int p3), .val (.int 1), .val (.int vb), .val (.int va), .val (.ref w_TEXT_END), .val (.int 4369), .unset] [(.int va), (.int (vb * (4 : Int32))), (.int 4369)])) _
    refine XS.iadd X1.here hx rfl (hb hby at_123) rfl ?_
    show Steps p.tables e below (T1.setTop (mkF m 124 #[.val (.int p1), .val (.int p2), .val (.int p3), .val (.int 1), .val (.int vb), .val (.int va), .val (.ref w_TEXT_END), .val (.int 4369), .unset] [(.int ((vb * (4 : Int32)) + va)), (.int 4369)])) _
    refine XS.iushr X1.here hx rfl (hb hby at_124) rfl ?_
    show Steps p.tables e below (T1.setTop (mkF m 125 #[.val (.int p1), .val (.int p2), .val (.int p3), .val (.int 1), .val (.int vb), .val (.int va), .val (.ref w_TEXT_END), .val (.int 4369), .unset] [(.int (((4369 : Int32).toUInt32 >>> (((vb * (4 : Int32)) + va) &&& 31).toUInt32).toInt32))])) _
    refine XS.iconst X1.here hx rfl (hb hby at_125) ?_
    show Steps p.tables e below (T1.setTop (mkF m 126 #[.val (.int p1), .val (.int p2), .val (.int p3), .val (.int 1), .val (.int vb), .val (.int va), .val (.ref w_TEXT_END), .val (.int 4369), .unset] [(.int 1), (.int (((4369 : Int32).toUInt32 >>> (((vb * (4 : Int32)) + va) &&& 31).toUInt32).toInt32))])) _
    refine XS.iand X1.here hx rfl (hb hby at_126) rfl ?_
    show Steps p.tables e below (T1.setTop (mkF m 127 #[.val (.int p1), .val (.int p2), .val (.int p3), .val (.int 1), .val (.int vb), .val (.int va), .val (.ref w_TEXT_END), .val (.int 4369), .unset] [(.int ((((4369 : Int32).toUInt32 >>> (((vb * (4 : Int32)) + va) &&& 31).toUInt32).toInt32) &&& (1 : Int32)))])) _
    rw [he]
    show Steps p.tables e below (T1.setTop (mkF m 127 #[.val (.int p1), .val (.int p2), .val (.int p3), .val (.int 1), .val (.int vb), .val (.int va), .val (.ref w_TEXT_END), .val (.int 4369), .unset] [(.int 0)])) _
    refine XS.ifYes X1.here hx rfl (pc0 := 127) (pc' := 134) rfl (hb hby at_127) rfl ((if0 _ _).trans (teq (by decide : (0 : Int32) = (0 : Int32))).1) (by decide) (by decide) ?_
    show Steps p.tables e below (T1.setTop (mkF m 134 #[.val (.int p1), .val (.int p2), .val (.int p3), .val (.int 1), .val (.int vb), .val (.int va), .val (.ref w_TEXT_END), .val (.int 4369), .unset] [])) _
    refine XS.iconst X1.here hx rfl (hb hby at_134) ?_
    show Steps p.tables e below (T1.setTop (mkF m 135 #[.val (.int p1), .val (.int p2), .val (.int p3), .val (.int 1), .val (.int vb), .val (.int va), .val (.ref w_TEXT_END), .val (.int 4369), .unset] [(.int 0)])) _
    refine XS.istore X1.here hx rfl (hb hby at_135) rfl (l' := #[.val (.int p1), .val (.int p2), .val (.int p3), .val (.int 1), .val (.int vb), .val (.int va), .val (.ref w_TEXT_END), .val (.int 4369), .val (.int 0)]) rfl ?_
    show Steps p.tables e below (T1.setTop (mkF m 137 #[.val (.int p1), .val (.int p2), .val (.int p3), .val (.int 1), .val (.int vb), .val (.int va), .val (.ref w_TEXT_END), .val (.int 4369), .val (.int 0)] [])) _
    refine XS.aload X1.here hx rfl (hb hby at_137) rfl rfl ?_
    show Steps p.tables e below (T1.setTop (mkF m 139 #[.val (.int p1), .val (.int p2), .val (.int p3), .val (.int 1), .val (.int vb), .val (.int va), .val (.ref w_TEXT_END), .val (.int 4369), .val (.int 0)] [(.ref w_TEXT_END)])) _
    refine XS.iload X1.here hx rfl (hb hby at_139) rfl ?_
    show Steps p.tables e below (T1.setTop (mkF m 141 #[.val (.int p1), .val (.int p2), .val (.int p3), .val (.int 1), .val (.int vb), .val (.int va), .val (.ref w_TEXT_END), .val (.int 4369), .val (.int 0)] [(.int vb), (.ref w_TEXT_END)])) _
    refine XS.iload X1.here hx rfl (hb hby at_141) rfl ?_
    show Steps p.tables e below (T1.setTop (mkF m 143 #[.val (.int p1), .val (.int p2), .val (.int p3), .val (.int 1), .val (.int vb), .val (.int va), .val (.ref w_TEXT_END), .val (.int 4369), .val (.int 0)] [(.int va), (.int vb), (.ref w_TEXT_END)])) _
    refine st2.trans ?_
    show Steps p.tables e below (T2.setTop (mkF m 146 #[.val (.int p1), .val (.int p2), .val (.int p3), .val (.int 1), .val (.int vb), .val (.int va), .val (.ref w_TEXT_END), .val (.int 4369), .val (.int 0)] [(.int 0)])) _
    refine XS.iload X2.here hx rfl (hb hby at_146) rfl ?_
    show Steps p.tables e below (T2.setTop (mkF m 148 #[.val (.int p1), .val (.int p2), .val (.int p3), .val (.int 1), .val (.int vb), .val (.int va), .val (.ref w_TEXT_END), .val (.int 4369), .val (.int 0)] [(.int 0), (.int 0)])) _
    refine XS.icmpNo X2.here hx rfl (hb hby at_148) rfl (teq (by decide : (0 : Int32) = (0 : Int32))).2 ?_
    show Steps p.tables e below (T2.setTop (mkF m 151 #[.val (.int p1), .val (.int p2), .val (.int p3), .val (.int 1), .val (.int vb), .val (.int va), .val (.ref w_TEXT_END), .val (.int 4369), .val (.int 0)] [])) _
    refine XS.iconst X2.here hx rfl (hb hby at_151) ?_
    show Steps p.tables e below (T2.setTop (mkF m 152 #[.val (.int p1), .val (.int p2), .val (.int p3), .val (.int 1), .val (.int vb), .val (.int va), .val (.ref w_TEXT_END), .val (.int 4369), .val (.int 0)] [(.int 1)])) _
    refine XS.goto X2.here hx rfl (pc0 := 152) (pc' := 156) rfl (hb hby at_152) (by decide) (by decide) ?_
    show Steps p.tables e below (T2.setTop (mkF m 156 #[.val (.int p1), .val (.int p2), .val (.int p3), .val (.int 1), .val (.int vb), .val (.int va), .val (.ref w_TEXT_END), .val (.int 4369), .val (.int 0)] [(.int 1)])) _
    exact retN X2 hx (t := .boolean) Bd.returns (by simp) (hb hby at_156) hr
  · show Q0_k1t Z p1 p2 p3 vb va w_TEXT_END h0 n0 _ T2.heap _
    rw [e2]
    exact ⟨rfl, N2, rfl⟩
def Q2_w_LINE_START (Z : State) (w_LINE_START : Addr) (h0 : Heap) (n0 : Nat) (v : Option Value) (h : Heap) (L : List Loc) : Prop := v = some (.int 2) ∧ Fr n0 L ∧ h = h0
set_option maxRecDepth 65536 in
set_option maxHeartbeats 40000000 in
theorem rm2_w_LINE_START (l : Launch) (Z : State) (a0 : Array Value) (hw : ∀ d ∈ tables_1, d.before a0 Z = true) (ws : List Jvm.Cond) (w_LINE_START : Addr) (h0 : Heap) (n0 : Nat) (Z0 : n0 ≤ h0.size) (F_ordinal_w_LINE_START : Fld Z h0 w_LINE_START "java/lang/Enum" "ordinal" "I" (.int 2)) :
    MetFree l (⟨"java/lang/Enum", "ordinal", "()I"⟩ : MethodName) (head1 (Jvm.Cond.code (⟨"java/lang/Enum", "ordinal", "()I"⟩ : MethodName) jdk_37_method_2_code 1 (some .int) :: ws) ({ frames := 0, cells := 0, slots := 0, locals := 0 } : Room)) (fun a U => a = #[(.ref w_LINE_START)] ∧ Z.Warmed39 U.vm ∧ U.heap = h0) (fun _ _ _ _ _ => True) (fun _ U o U' => ∃ v L, o = .returned v ∧ Q2_w_LINE_START Z w_LINE_START h0 n0 v U'.heap L ∧ FrameEnd U o U' L ({ frames := 0, cells := 0, slots := 0, locals := 0 } : Room).cells ({ frames := 0, cells := 0, slots := 0, locals := 0 } : Room).slots) := by
  refine MetFree.of_bodySF (plainFor_of_name pn_2) hisR ?_
  intro p e s m args below meth c s₁ Bd hml0 hP hK
  obtain ⟨rfl, hZ, hh⟩ := hP
  have hx := Bd.exec
  have hby := Bd.bytes
  have hml : c.maxLocals = 1 := hml0
  have hown : s.vm.findClass "java/lang/Enum" = some m.cls := findClass_of_methodNamed Bd.named
  have hnm := (name_of_methodNamed Bd.named Bd.method).1
  have X0 : Stand p l e ({ frames := 0, cells := 0, slots := 0, locals := 0 } : Room) s m #[(.ref w_LINE_START)] below meth c s₁ [] 0 0 := Stand.of_body Bd
  have e0 : s₁.heap = h0 := by rw [← hh, Bd.state]; rfl
  have N0 := Fr.nil n0
  have pre0 : ∀ t, Steps p.tables e below (s₁.setTop (mkF m 0 #[.val (.ref w_LINE_START)] [])) t → Steps p.tables e below (s₁.setTop (entryFrame m #[(.ref w_LINE_START)] 1)) t := fun t k => castTop (by first | (simp [entryFrame, mkF, argsToLocals, Value.category]; done) | rfl) k
  obtain ⟨T1, X1, e1, st1⟩ := getF X0 hx hZ hown (host := "") (Or.inl (hw _ (List.mem_of_getElem? (i := 16) rfl))) Via.refl e0 F_ordinal_w_LINE_START (g := (mkF m 1 #[.val (.ref w_LINE_START)] [(.ref w_LINE_START)])) rfl rfl (hb hby d2_1)
  obtain ⟨fs, hr, hrun, hended, hW, hsame⟩ := X1.leave (v := some (.int 2)) (fun h => by rw [Bd.returns] at h; cases h)
  refine ⟨_, _, pre0 _ ?_, hrun, hended, _, _, rfl, ?_, ⟨_, rfl⟩, hW, hsame.mono (by decide) (by decide)⟩
  · show Steps p.tables e below (s₁.setTop (mkF m 0 #[.val (.ref w_LINE_START)] [])) _
    refine XS.aloadN X0.here hx rfl (hb hby d2_0) rfl rfl ?_
    show Steps p.tables e below (s₁.setTop (mkF m 1 #[.val (.ref w_LINE_START)] [(.ref w_LINE_START)])) _
    refine st1 _ ?_
    show Steps p.tables e below (T1.setTop (mkF m 4 #[.val (.ref w_LINE_START)] [(.int 2)])) _
    exact retI X1 hx Bd.returns (hb hby d2_4) hr
  · show Q2_w_LINE_START Z w_LINE_START h0 n0 _ T1.heap _
    rw [e1]
    exact ⟨rfl, N0, rfl⟩
def Q1_w_LINE_START_vb_va_rt (Z : State) (w_LINE_START : Addr) (vb : Int32) (va : Int32) (h0 : Heap) (n0 : Nat) (v : Option Value) (h : Heap) (L : List Loc) : Prop := v = some (.int 1) ∧ Fr n0 L ∧ h = h0
set_option maxRecDepth 65536 in
set_option maxHeartbeats 40000000 in
theorem rm1_w_LINE_START_vb_va_rt (l : Launch) (Z : State) (a0 : Array Value) (hw : ∀ d ∈ tables_1, d.before a0 Z = true) (ws : List Jvm.Cond) (w_LINE_START : Addr) (vb : Int32) (va : Int32) (h0 : Heap) (n0 : Nat) (Z0 : n0 ≤ h0.size) (F_ordinal_w_LINE_START : Fld Z h0 w_LINE_START "java/lang/Enum" "ordinal" "I" (.int 2)) (E_w_LINE_START : Exa Z h0 w_LINE_START "com/example/termwell/termwell/core/text/RegexNode$Anchor") (hc79 : vb = (0 : Int32)) :
    MetFree l (⟨"com/example/termwell/termwell/core/text/RegexNode$Anchor", "holds", "(II)Z"⟩ : MethodName) (head1 (Jvm.Cond.code (⟨"com/example/termwell/termwell/core/text/RegexNode$Anchor", "holds", "(II)Z"⟩ : MethodName) prog_28_method_5_code 3 (some .boolean) :: ws) ({ frames := 1, cells := 0, slots := 0, locals := 12 } : Room)) (fun a U => a = #[(.ref w_LINE_START), (.int vb), (.int va)] ∧ Z.Warmed39 U.vm ∧ U.heap = h0) (fun _ _ _ _ _ => True) (fun _ U o U' => ∃ v L, o = .returned v ∧ Q1_w_LINE_START_vb_va_rt Z w_LINE_START vb va h0 n0 v U'.heap L ∧ FrameEnd U o U' L ({ frames := 1, cells := 0, slots := 0, locals := 12 } : Room).cells ({ frames := 1, cells := 0, slots := 0, locals := 12 } : Room).slots) := by
  refine MetFree.of_bodySF (plainFor_of_name pn_1) hisR ?_
  intro p e s m args below meth c s₁ Bd hml0 hP hK
  obtain ⟨rfl, hZ, hh⟩ := hP
  have hx := Bd.exec
  have hby := Bd.bytes
  have hml : c.maxLocals = 3 := hml0
  have hown : s.vm.findClass "com/example/termwell/termwell/core/text/RegexNode$Anchor" = some m.cls := findClass_of_methodNamed Bd.named
  have hnm := (name_of_methodNamed Bd.named Bd.method).1
  have X0 : Stand p l e ({ frames := 1, cells := 0, slots := 0, locals := 12 } : Room) s m #[(.ref w_LINE_START), (.int vb), (.int va)] below meth c s₁ [] 0 0 := Stand.of_body Bd
  have e0 : s₁.heap = h0 := by rw [← hh, Bd.state]; rfl
  have N0 := Fr.nil n0
  have pre0 : ∀ t, Steps p.tables e below (s₁.setTop (mkF m 0 #[.val (.ref w_LINE_START), .val (.int vb), .val (.int va)] [])) t → Steps p.tables e below (s₁.setTop (entryFrame m #[(.ref w_LINE_START), (.int vb), (.int va)] 3)) t := fun t k => castTop (by first | (simp [entryFrame, mkF, argsToLocals, Value.category]; done) | rfl) k
  obtain ⟨cq1, kq1, q1a, q1b, q1c⟩ := isOf hZ e0 E_w_LINE_START
  obtain ⟨_, _, ⟨T1, L1, k1, n1⟩, -, X1, ⟨Lc1, hQ1, l1, y1, z1⟩, st1⟩ := X0.virtualBackUp hx (x := (⟨"com/example/termwell/termwell/core/text/RegexNode$Anchor", "ordinal", "()I"⟩ : MethodName)) (y := (⟨"java/lang/Enum", "ordinal", "()I"⟩ : MethodName)) (owner := "java/lang/Enum") hown (mvT hZ (hw _ (List.mem_of_getElem? (i := 9) rfl))) (mvT hZ (hw _ (List.mem_of_getElem? (i := 10) rfl))) (mvT hZ (hw _ (List.mem_of_getElem? (i := 11) rfl))) (by decide) (mvT hZ (hw _ (List.mem_of_getElem? (i := 13) rfl))) (mvT hZ (hw _ (List.mem_of_getElem? (i := 12) rfl))) (backOf (W := 0) (rm2_w_LINE_START l Z a0 hw [] w_LINE_START h0 n0 Z0 F_ordinal_w_LINE_START) hZ (hw _ (List.mem_of_getElem? (i := 15) rfl)) (hw _ (List.mem_of_getElem? (i := 14) rfl)) (by decide) (by decide)) q1a q1c (g := (mkF m 1 #[.val (.ref w_LINE_START), .val (.int vb), .val (.int va)] [(.ref w_LINE_START)])) rfl (by rw [hml]; rfl) (Steps.refl _) (argsL := []) (rest := []) (lenOf pd___I rfl) rfl (by show 2 * 0 + _ ≤ _; exact Nat.le_of_eq rfl) (hb hby d1_1) (fun _ _ => ⟨rfl, e0, (by decide : 0 + 0 ≤ _), (by decide : 0 + 0 ≤ _)⟩)
  dsimp only [Pt.U, Pt.locs, Pt.cells, Pt.slots] at X1 l1 y1 z1 st1 hQ1
  subst l1 y1 z1
  obtain ⟨rfl, N1q, e1⟩ := hQ1
  have N1 := Fr.app N0 N1q
  obtain ⟨fs, hr, hrun, hended, hW, hsame⟩ := X1.leave (v := some (.int 1)) (fun h => by rw [Bd.returns] at h; cases h)
  refine ⟨_, _, pre0 _ ?_, hrun, hended, _, _, rfl, ?_, ⟨_, rfl⟩, hW, hsame.mono (by decide) (by decide)⟩
  · show Steps p.tables e below (s₁.setTop (mkF m 0 #[.val (.ref w_LINE_START), .val (.int vb), .val (.int va)] [])) _
    refine XS.aloadN X0.here hx rfl (hb hby d1_0) rfl rfl ?_
    show Steps p.tables e below (s₁.setTop (mkF m 1 #[.val (.ref w_LINE_START), .val (.int vb), .val (.int va)] [(.ref w_LINE_START)])) _
    refine st1.trans ?_
    show Steps p.tables e below (T1.setTop (mkF m 4 #[.val (.ref w_LINE_START), .val (.int vb), .val (.int va)] [(.int 2)])) _
    refine XS.tswIn X1.here hx rfl (pc0 := 4) (pc' := 78) rfl (hb hby d1_4) rfl (by decide) (o := 74) (by decide) (by decide) (by decide) ?_
    show Steps p.tables e below (T1.setTop (mkF m 78 #[.val (.ref w_LINE_START), .val (.int vb), .val (.int va)] [])) _
    refine XS.iloadN X1.here hx rfl (hb hby d1_78) rfl ?_
    show Steps p.tables e below (T1.setTop (mkF m 79 #[.val (.ref w_LINE_START), .val (.int vb), .val (.int va)] [(.int vb)])) _
    refine XS.ifYes X1.here hx rfl (pc0 := 79) (pc' := 87) rfl (hb hby d1_79) rfl ((if0 _ _).trans (teq hc79).1) (by decide) (by decide) ?_
    show Steps p.tables e below (T1.setTop (mkF m 87 #[.val (.ref w_LINE_START), .val (.int vb), .val (.int va)] [])) _
    refine XS.iconst X1.here hx rfl (hb hby d1_87) ?_
    show Steps p.tables e below (T1.setTop (mkF m 88 #[.val (.ref w_LINE_START), .val (.int vb), .val (.int va)] [(.int 1)])) _
    refine XS.goto X1.here hx rfl (pc0 := 88) (pc' := 171) rfl (hb hby d1_88) (by decide) (by decide) ?_
    show Steps p.tables e below (T1.setTop (mkF m 171 #[.val (.ref w_LINE_START), .val (.int vb), .val (.int va)] [(.int 1)])) _
    exact retN X1 hx (t := .boolean) Bd.returns (by simp) (hb hby d1_171) hr
  · show Q1_w_LINE_START_vb_va_rt Z w_LINE_START vb va h0 n0 _ T1.heap _
    rw [e1]
    exact ⟨rfl, N1, rfl⟩
def Q0_k2t (Z : State) (p1 : Int32) (p2 : Int32) (p3 : Int32) (vb : Int32) (va : Int32) (w_LINE_START : Addr) (h0 : Heap) (n0 : Nat) (v : Option Value) (h : Heap) (L : List Loc) : Prop := v = some (.int 1) ∧ Fr n0 L ∧ h = h0
set_option maxRecDepth 65536 in
set_option maxHeartbeats 40000000 in
theorem rm0_k2t (l : Launch) (Z : State) (a0 : Array Value) (hw : ∀ d ∈ tables_1, d.before a0 Z = true) (ws : List Jvm.Cond) (p1 : Int32) (p2 : Int32) (p3 : Int32) (vb : Int32) (va : Int32) (w_LINE_START : Addr) (h0 : Heap) (n0 : Nat) (Z0 : n0 ≤ h0.size) (hk : ((p1 &&& (2147483647 : Int32)) % (6 : Int32)) = (2 : Int32)) (hvb : (p2 &&& (3 : Int32)) = vb) (hva : (p3 &&& (3 : Int32)) = va) (S_LINE_START : Sta Z h0 "com/example/termwell/termwell/core/text/RegexNode$Anchor" "LINE_START" "Lcom/example/termwell/termwell/core/text/RegexNode$Anchor;" (.ref w_LINE_START)) (he : ((((255 : Int32).toUInt32 >>> (((vb * (4 : Int32)) + va) &&& 31).toUInt32).toInt32) &&& (1 : Int32)) = (1 : Int32)) (F_ordinal_w_LINE_START : Fld Z h0 w_LINE_START "java/lang/Enum" "ordinal" "I" (.int 2)) (E_w_LINE_START : Exa Z h0 w_LINE_START "com/example/termwell/termwell/core/text/RegexNode$Anchor") (hc79 : vb = (0 : Int32)) :
    MetFree l x (head1 (Jvm.Cond.code x code maxLocals ret :: ws) room_1) (fun a U => a = #[(.int p1), (.int p2), (.int p3)] ∧ Z.Warmed39 U.vm ∧ U.heap = h0) (fun _ _ _ _ _ => True) (fun _ U o U' => ∃ v L, o = .returned v ∧ Q0_k2t Z p1 p2 p3 vb va w_LINE_START h0 n0 v U'.heap L ∧ FrameEnd U o U' L room_1.cells room_1.slots) := by
  refine MetFree.of_bodySF (plainFor_of_name pn_0) hisR ?_
  intro p e s m args below meth c s₁ Bd hml0 hP hK
  obtain ⟨rfl, hZ, hh⟩ := hP
  have hx := Bd.exec
  have hby := Bd.bytes
  have hml : c.maxLocals = 9 := hml0
  have hown : s.vm.findClass "com/example/termwell/termwell/core/text/AnchorHoldsPinLaw" = some m.cls := findClass_of_methodNamed Bd.named
  have hnm := (name_of_methodNamed Bd.named Bd.method).1
  have X0 : Stand p l e room_1 s m #[(.int p1), (.int p2), (.int p3)] below meth c s₁ [] 0 0 := Stand.of_body Bd
  have e0 : s₁.heap = h0 := by rw [← hh, Bd.state]; rfl
  have N0 := Fr.nil n0
  have pre0 : ∀ t, Steps p.tables e below (s₁.setTop (mkF m 0 #[.val (.int p1), .val (.int p2), .val (.int p3), .unset, .unset, .unset, .unset, .unset, .unset] [])) t → Steps p.tables e below (s₁.setTop (entryFrame m #[(.int p1), (.int p2), (.int p3)] maxLocals)) t := fun t k => castTop (by first | (simp [entryFrame, mkF, argsToLocals, Value.category, maxLocals]; done) | rfl) k
  obtain ⟨T1, X1, e1, st1⟩ := getS2 X0 hx hZ hown (host := "") (Or.inl (hw _ (List.mem_of_getElem? (i := 20) rfl))) Via.refl e0 S_LINE_START (g := (mkF m 57 #[.val (.int p1), .val (.int p2), .val (.int p3), .val (.int 2), .val (.int vb), .val (.int va), .unset, .unset, .unset] [])) rfl (hb hby at_57)
  obtain ⟨cq2, kq2, q2a, q2b, q2c⟩ := isOf hZ e1 E_w_LINE_START
  obtain ⟨_, _, ⟨T2, L2, k2, n2⟩, -, X2, ⟨Lc2, hQ2, l2, y2, z2⟩, st2⟩ := X1.virtualBack hx (y := (⟨"com/example/termwell/termwell/core/text/RegexNode$Anchor", "holds", "(II)Z"⟩ : MethodName)) (z := (⟨"com/example/termwell/termwell/core/text/RegexNode$Anchor", "holds", "(II)Z"⟩ : MethodName)) hown (mvT hZ (hw _ (List.mem_of_getElem? (i := 4) rfl))) (mvT hZ (hw _ (List.mem_of_getElem? (i := 5) rfl))) (notFace_of_selects (args := #[]) (mvT hZ (hw _ (List.mem_of_getElem? (i := 7) rfl)))) (mvT hZ (hw _ (List.mem_of_getElem? (i := 7) rfl))) (mvT hZ (hw _ (List.mem_of_getElem? (i := 6) rfl))) (by decide) (backOf (W := 0) (rm1_w_LINE_START_vb_va_rt l Z a0 hw [] w_LINE_START vb va h0 n0 Z0 F_ordinal_w_LINE_START E_w_LINE_START hc79) hZ (hw _ (List.mem_of_getElem? (i := 8) rfl)) (hw _ (List.mem_of_getElem? (i := 2) rfl)) (by decide) (by decide)) q2a q2c (g := (mkF m 143 #[.val (.int p1), .val (.int p2), .val (.int p3), .val (.int 2), .val (.int vb), .val (.int va), .val (.ref w_LINE_START), .val (.int 255), .val (.int 1)] [(.int va), (.int vb), (.ref w_LINE_START)])) rfl (by rw [hml]; rfl) (Steps.refl _) (argsL := [(.int vb), (.int va)]) (rest := []) (lenOf pd__II_Z rfl) rfl (by show 2 * 0 + _ ≤ _; exact Nat.le_of_eq rfl) (hb hby at_143) (fun _ _ => ⟨rfl, e1, (by decide : 0 + 0 ≤ _), (by decide : 0 + 0 ≤ _)⟩)
  dsimp only [Pt.U, Pt.locs, Pt.cells, Pt.slots] at X2 l2 y2 z2 st2 hQ2
  subst l2 y2 z2
  obtain ⟨rfl, N2q, e2⟩ := hQ2
  have N2 := Fr.app N0 N2q
  obtain ⟨fs, hr, hrun, hended, hW, hsame⟩ := X2.leave (v := some (.int 1)) (fun h => by rw [Bd.returns] at h; cases h)
  refine ⟨_, _, pre0 _ ?_, hrun, hended, _, _, rfl, ?_, ⟨_, rfl⟩, hW, hsame.mono (by decide) (by decide)⟩
  · show Steps p.tables e below (s₁.setTop (mkF m 0 #[.val (.int p1), .val (.int p2), .val (.int p3), .unset, .unset, .unset, .unset, .unset, .unset] [])) _
    refine XS.iloadN X0.here hx rfl (hb hby at_0) rfl ?_
    show Steps p.tables e below (s₁.setTop (mkF m 1 #[.val (.int p1), .val (.int p2), .val (.int p3), .unset, .unset, .unset, .unset, .unset, .unset] [(.int p1)])) _
    refine X0.ldcInt hx hown (mvT hZ (hw _ (List.mem_of_getElem? (i := 0) rfl))) (g := (mkF m 1 #[.val (.int p1), .val (.int p2), .val (.int p3), .unset, .unset, .unset, .unset, .unset, .unset] [(.int p1)])) rfl (hb hby at_1) _ ?_
    show Steps p.tables e below (s₁.setTop (mkF m 3 #[.val (.int p1), .val (.int p2), .val (.int p3), .unset, .unset, .unset, .unset, .unset, .unset] [(.int 2147483647), (.int p1)])) _
    refine XS.iand X0.here hx rfl (hb hby at_3) rfl ?_
    show Steps p.tables e below (s₁.setTop (mkF m 4 #[.val (.int p1), .val (.int p2), .val (.int p3), .unset, .unset, .unset, .unset, .unset, .unset] [(.int (p1 &&& (2147483647 : Int32)))])) _
    refine XS.bipush X0.here hx rfl (hb hby at_4) ?_
    show Steps p.tables e below (s₁.setTop (mkF m 6 #[.val (.int p1), .val (.int p2), .val (.int p3), .unset, .unset, .unset, .unset, .unset, .unset] [(.int 6), (.int (p1 &&& (2147483647 : Int32)))])) _
    refine iremM X0 hx rfl (hb hby at_6) rfl (by decide) ?_
    show Steps p.tables e below (s₁.setTop (mkF m 7 #[.val (.int p1), .val (.int p2), .val (.int p3), .unset, .unset, .unset, .unset, .unset, .unset] [(.int ((p1 &&& (2147483647 : Int32)) % (6 : Int32)))])) _
    rw [hk]
    show Steps p.tables e below (s₁.setTop (mkF m 7 #[.val (.int p1), .val (.int p2), .val (.int p3), .unset, .unset, .unset, .unset, .unset, .unset] [(.int 2)])) _
    refine XS.istoreN X0.here hx rfl (hb hby at_7) rfl (l' := #[.val (.int p1), .val (.int p2), .val (.int p3), .val (.int 2), .unset, .unset, .unset, .unset, .unset]) rfl ?_
    show Steps p.tables e below (s₁.setTop (mkF m 8 #[.val (.int p1), .val (.int p2), .val (.int p3), .val (.int 2), .unset, .unset, .unset, .unset, .unset] [])) _
    refine XS.iloadN X0.here hx rfl (hb hby at_8) rfl ?_
    show Steps p.tables e below (s₁.setTop (mkF m 9 #[.val (.int p1), .val (.int p2), .val (.int p3), .val (.int 2), .unset, .unset, .unset, .unset, .unset] [(.int p2)])) _
    refine XS.iconst X0.here hx rfl (hb hby at_9) ?_
    show Steps p.tables e below (s₁.setTop (mkF m 10 #[.val (.int p1), .val (.int p2), .val (.int p3), .val (.int 2), .unset, .unset, .unset, .unset, .unset] [(.int 3), (.int p2)])) _
    refine XS.iand X0.here hx rfl (hb hby at_10) rfl ?_
    show Steps p.tables e below (s₁.setTop (mkF m 11 #[.val (.int p1), .val (.int p2), .val (.int p3), .val (.int 2), .unset, .unset, .unset, .unset, .unset] [(.int (p2 &&& (3 : Int32)))])) _
    rw [hvb]
    show Steps p.tables e below (s₁.setTop (mkF m 11 #[.val (.int p1), .val (.int p2), .val (.int p3), .val (.int 2), .unset, .unset, .unset, .unset, .unset] [(.int vb)])) _
    refine XS.istore X0.here hx rfl (hb hby at_11) rfl (l' := #[.val (.int p1), .val (.int p2), .val (.int p3), .val (.int 2), .val (.int vb), .unset, .unset, .unset, .unset]) rfl ?_
    show Steps p.tables e below (s₁.setTop (mkF m 13 #[.val (.int p1), .val (.int p2), .val (.int p3), .val (.int 2), .val (.int vb), .unset, .unset, .unset, .unset] [])) _
    refine XS.iloadN X0.here hx rfl (hb hby at_13) rfl ?_
    show Steps p.tables e below (s₁.setTop (mkF m 14 #[.val (.int p1), .val (.int p2), .val (.int p3), .val (.int 2), .val (.int vb), .unset, .unset, .unset, .unset] [(.int p3)])) _
    refine XS.iconst X0.here hx rfl (hb hby at_14) ?_
    show Steps p.tables e below (s₁.setTop (mkF m 15 #[.val (.int p1), .val (.int p2), .val (.int p3), .val (.int 2), .val (.int vb), .unset, .unset, .unset, .unset] [(.int 3), (.int p3)])) _
    refine XS.iand X0.here hx rfl (hb hby at_15) rfl ?_
    show Steps p.tables e below (s₁.setTop (mkF m 16 #[.val (.int p1), .val (.int p2), .val (.int p3), .val (.int 2), .val (.int vb), .unset, .unset, .unset, .unset] [(.int (p3 &&& (3 : Int32)))])) _
    rw [hva]
    show Steps p.tables e below (s₁.setTop (mkF m 16 #[.val (.int p1), .val (.int p2), .val (.int p3), .val (.int 2), .val (.int vb), .unset, .unset, .unset, .unset] [(.int va)])) _
    refine XS.istore X0.here hx rfl (hb hby at_16) rfl (l' := #[.val (.int p1), .val (.int p2), .val (.int p3), .val (.int 2), .val (.int vb), .val (.int va), .unset, .unset, .unset]) rfl ?_
    show Steps p.tables e below (s₁.setTop (mkF m 18 #[.val (.int p1), .val (.int p2), .val (.int p3), .val (.int 2), .val (.int vb), .val (.int va), .unset, .unset, .unset] [])) _
    refine XS.iloadN X0.here hx rfl (hb hby at_18) rfl ?_
    show Steps p.tables e below (s₁.setTop (mkF m 19 #[.val (.int p1), .val (.int p2), .val (.int p3), .val (.int 2), .val (.int vb), .val (.int va), .unset, .unset, .unset] [(.int 2)])) _
    refine XS.ifYes X0.here hx rfl (pc0 := 19) (pc' := 34) rfl (hb hby at_19) rfl ((if0 _ _).trans (feq (by decide : ¬ ((2 : Int32) = (0 : Int32)))).2) (by decide) (by decide) ?_
    show Steps p.tables e below (s₁.setTop (mkF m 34 #[.val (.int p1), .val (.int p2), .val (.int p3), .val (.int 2), .val (.int vb), .val (.int va), .unset, .unset, .unset] [])) _
    refine XS.iloadN X0.here hx rfl (hb hby at_34) rfl ?_
    show Steps p.tables e below (s₁.setTop (mkF m 35 #[.val (.int p1), .val (.int p2), .val (.int p3), .val (.int 2), .val (.int vb), .val (.int va), .unset, .unset, .unset] [(.int 2)])) _
    refine XS.iconst X0.here hx rfl (hb hby at_35) ?_
    show Steps p.tables e below (s₁.setTop (mkF m 36 #[.val (.int p1), .val (.int p2), .val (.int p3), .val (.int 2), .val (.int vb), .val (.int va), .unset, .unset, .unset] [(.int 1), (.int 2)])) _
    refine XS.icmpYes X0.here hx rfl (pc0 := 36) (pc' := 52) rfl (hb hby at_36) rfl (feq (by decide : ¬ ((2 : Int32) = (1 : Int32)))).2 (by decide) (by decide) ?_
    show Steps p.tables e below (s₁.setTop (mkF m 52 #[.val (.int p1), .val (.int p2), .val (.int p3), .val (.int 2), .val (.int vb), .val (.int va), .unset, .unset, .unset] [])) _
    refine XS.iloadN X0.here hx rfl (hb hby at_52) rfl ?_
    show Steps p.tables e below (s₁.setTop (mkF m 53 #[.val (.int p1), .val (.int p2), .val (.int p3), .val (.int 2), .val (.int vb), .val (.int va), .unset, .unset, .unset] [(.int 2)])) _
    refine XS.iconst X0.here hx rfl (hb hby at_53) ?_
    show Steps p.tables e below (s₁.setTop (mkF m 54 #[.val (.int p1), .val (.int p2), .val (.int p3), .val (.int 2), .val (.int vb), .val (.int va), .unset, .unset, .unset] [(.int 2), (.int 2)])) _
    refine XS.icmpNo X0.here hx rfl (hb hby at_54) rfl (teq (by decide : (2 : Int32) = (2 : Int32))).2 ?_
    show Steps p.tables e below (s₁.setTop (mkF m 57 #[.val (.int p1), .val (.int p2), .val (.int p3), .val (.int 2), .val (.int vb), .val (.int va), .unset, .unset, .unset] [])) _
    refine st1 _ ?_
    show Steps p.tables e below (T1.setTop (mkF m 60 #[.val (.int p1), .val (.int p2), .val (.int p3), .val (.int 2), .val (.int vb), .val (.int va), .unset, .unset, .unset] [(.ref w_LINE_START)])) _
    refine XS.astore X1.here hx rfl (hb hby at_60) rfl rfl (l' := #[.val (.int p1), .val (.int p2), .val (.int p3), .val (.int 2), .val (.int vb), .val (.int va), .val (.ref w_LINE_START), .unset, .unset]) rfl ?_
    show Steps p.tables e below (T1.setTop (mkF m 62 #[.val (.int p1), .val (.int p2), .val (.int p3), .val (.int 2), .val (.int vb), .val (.int va), .val (.ref w_LINE_START), .unset, .unset] [])) _
    refine XS.sipush X1.here hx rfl (hb hby at_62) ?_
    show Steps p.tables e below (T1.setTop (mkF m 65 #[.val (.int p1), .val (.int p2), .val (.int p3), .val (.int 2), .val (.int vb), .val (.int va), .val (.ref w_LINE_START), .unset, .unset] [(.int 255)])) _
    refine XS.istore X1.here hx rfl (hb hby at_65) rfl (l' := #[.val (.int p1), .val (.int p2), .val (.int p3), .val (.int 2), .val (.int vb), .val (.int va), .val (.ref w_LINE_START), .val (.int 255), .unset]) rfl ?_
    show Steps p.tables e below (T1.setTop (mkF m 67 #[.val (.int p1), .val (.int p2), .val (.int p3), .val (.int 2), .val (.int vb), .val (.int va), .val (.ref w_LINE_START), .val (.int 255), .unset] [])) _
    refine XS.goto X1.here hx rfl (pc0 := 67) (pc' := 115) rfl (hb hby at_67) (by decide) (by decide) ?_
    show Steps p.tables e below (T1.setTop (mkF m 115 #[.val (.int p1), .val (.int p2), .val (.int p3), .val (.int 2), .val (.int vb), .val (.int va), .val (.ref w_LINE_START), .val (.int 255), .unset] [])) _
    refine XS.iload X1.here hx rfl (hb hby at_115) rfl ?_
    show Steps p.tables e below (T1.setTop (mkF m 117 #[.val (.int p1), .val (.int p2), .val (.int p3), .val (.int 2), .val (.int vb), .val (.int va), .val (.ref w_LINE_START), .val (.int 255), .unset] [(.int 255)])) _
    refine XS.iload X1.here hx rfl (hb hby at_117) rfl ?_
    show Steps p.tables e below (T1.setTop (mkF m 119 #[.val (.int p1), .val (.int p2), .val (.int p3), .val (.int 2), .val (.int vb), .val (.int va), .val (.ref w_LINE_START), .val (.int 255), .unset] [(.int vb), (.int 255)])) _
    refine XS.iconst X1.here hx rfl (hb hby at_119) ?_
    show Steps p.tables e below (T1.setTop (mkF m 120 #[.val (.int p1), .val (.int p2), .val (.int p3), .val (.int 2), .val (.int vb), .val (.int va), .val (.ref w_LINE_START), .val (.int 255), .unset] [(.int 4), (.int vb), (.int 255)])) _
    refine XS.imul X1.here hx rfl (hb hby at_120) rfl ?_
    show Steps p.tables e below (T1.setTop (mkF m 121 #[.val (.int p1), .val (.int p2), .val (.int p3), .val (.int 2), .val (.int vb), .val (.int va), .val (.ref w_LINE_START), .val (.int 255), .unset] [(.int (vb * (4 : Int32))), (.int 255)])) _
    refine XS.iload X1.here hx rfl (hb hby at_121) rfl ?_
    show Steps p.tables e below (T1.setTop (mkF m 123 #[.val (.int p1), .val (.int p2), .val (.int p3), .val (.int 2), .val (.int vb), .val (.int va), .val (.ref w_LINE_START), .val (.int 255), .unset] [(.int va), (.int (vb * (4 : Int32))), (.int 255)])) _
    refine XS.iadd X1.here hx rfl (hb hby at_123) rfl ?_
    show Steps p.tables e below (T1.setTop (mkF m 124 #[.val (.int p1), .val (.int p2), .val (.int p3), .val (.int 2), .val (.int vb), .val (.int va), .val (.ref w_LINE_START), .val (.int 255), .unset] [(.int ((vb * (4 : Int32)) + va)), (.int 255)])) _
    refine XS.iushr X1.here hx rfl (hb hby at_124) rfl ?_
    show Steps p.tables e below (T1.setTop (mkF m 125 #[.val (.int p1), .val (.int p2), .val (.int p3), .val (.int 2), .val (.int vb), .val (.int va), .val (.ref w_LINE_START), .val (.int 255), .unset] [(.int (((255 : Int32).toUInt32 >>> (((vb * (4 : Int32)) + va) &&& 31).toUInt32).toInt32))])) _
    refine XS.iconst X1.here hx rfl (hb hby at_125) ?_
    show Steps p.tables e below (T1.setTop (mkF m 126 #[.val (.int p1), .val (.int p2), .val (.int p3), .val (.int 2), .val (.int vb), .val (.int va), .val (.ref w_LINE_START), .val (.int 255), .unset] [(.int 1), (.int (((255 : Int32).toUInt32 >>> (((vb * (4 : Int32)) + va) &&& 31).toUInt32).toInt32))])) _
    refine XS.iand X1.here hx rfl (hb hby at_126) rfl ?_
    show Steps p.tables e below (T1.setTop (mkF m 127 #[.val (.int p1), .val (.int p2), .val (.int p3), .val (.int 2), .val (.int vb), .val (.int va), .val (.ref w_LINE_START), .val (.int 255), .unset] [(.int ((((255 : Int32).toUInt32 >>> (((vb * (4 : Int32)) + va) &&& 31).toUInt32).toInt32) &&& (1 : Int32)))])) _
    rw [he]
    show Steps p.tables e below (T1.setTop (mkF m 127 #[.val (.int p1), .val (.int p2), .val (.int p3), .val (.int 2), .val (.int vb), .val (.int va), .val (.ref w_LINE_START), .val (.int 255), .unset] [(.int 1)])) _
    refine XS.ifNo X1.here hx rfl (hb hby at_127) rfl ((if0 _ _).trans (feq (by decide : ¬ ((1 : Int32) = (0 : Int32)))).1) ?_
    show Steps p.tables e below (T1.setTop (mkF m 130 #[.val (.int p1), .val (.int p2), .val (.int p3), .val (.int 2), .val (.int vb), .val (.int va), .val (.ref w_LINE_START), .val (.int 255), .unset] [])) _
    refine XS.iconst X1.here hx rfl (hb hby at_130) ?_
    show Steps p.tables e below (T1.setTop (mkF m 131 #[.val (.int p1), .val (.int p2), .val (.int p3), .val (.int 2), .val (.int vb), .val (.int va), .val (.ref w_LINE_START), .val (.int 255), .unset] [(.int 1)])) _
    refine XS.goto X1.here hx rfl (pc0 := 131) (pc' := 135) rfl (hb hby at_131) (by decide) (by decide) ?_
    show Steps p.tables e below (T1.setTop (mkF m 135 #[.val (.int p1), .val (.int p2), .val (.int p3), .val (.int 2), .val (.int vb), .val (.int va), .val (.ref w_LINE_START), .val (.int 255), .unset] [(.int 1)])) _
    refine XS.istore X1.here hx rfl (hb hby at_135) rfl (l' := #[.val (.int p1), .val (.int p2), .val (.int p3), .val (.int 2), .val (.int vb), .val (.int va), .val (.ref w_LINE_START), .val (.int 255), .val (.int 1)]) rfl ?_
    show Steps p.tables e below (T1.setTop (mkF m 137 #[.val (.int p1), .val (.int p2), .val (.int p3), .val (.int 2), .val (.int vb), .val (.int va), .val (.ref w_LINE_START), .val (.int 255), .val (.int 1)] [])) _
    refine XS.aload X1.here hx rfl (hb hby at_137) rfl rfl ?_
    show Steps p.tables e below (T1.setTop (mkF m 139 #[.val (.int p1), .val (.int p2), .val (.int p3), .val (.int 2), .val (.int vb), .val (.int va), .val (.ref w_LINE_START), .val (.int 255), .val (.int 1)] [(.ref w_LINE_START)])) _
    refine XS.iload X1.here hx rfl (hb hby at_139) rfl ?_
    show Steps p.tables e below (T1.setTop (mkF m 141 #[.val (.int p1), .val (.int p2), .val (.int p3), .val (.int 2), .val (.int vb), .val (.int va), .val (.ref w_LINE_START), .val (.int 255), .val (.int 1)] [(.int vb), (.ref w_LINE_START)])) _
    refine XS.iload X1.here hx rfl (hb hby at_141) rfl ?_
    show Steps p.tables e below (T1.setTop (mkF m 143 #[.val (.int p1), .val (.int p2), .val (.int p3), .val (.int 2), .val (.int vb), .val (.int va), .val (.ref w_LINE_START), .val (.int 255), .val (.int 1)] [(.int va), (.int vb), (.ref w_LINE_START)])) _
    refine st2.trans ?_
    show Steps p.tables e below (T2.setTop (mkF m 146 #[.val (.int p1), .val (.int p2), .val (.int p3), .val (.int 2), .val (.int vb), .val (.int va), .val (.ref w_LINE_START), .val (.int 255), .val (.int 1)] [(.int 1)])) _
    refine XS.iload X2.here hx rfl (hb hby at_146) rfl ?_
    show Steps p.tables e below (T2.setTop (mkF m 148 #[.val (.int p1), .val (.int p2), .val (.int p3), .val (.int 2), .val (.int vb), .val (.int va), .val (.ref w_LINE_START), .val (.int 255), .val (.int 1)] [(.int 1), (.int 1)])) _
    refine XS.icmpNo X2.here hx rfl (hb hby at_148) rfl (teq (by decide : (1 : Int32) = (1 : Int32))).2 ?_
    show Steps p.tables e below (T2.setTop (mkF m 151 #[.val (.int p1), .val (.int p2), .val (.int p3), .val (.int 2), .val (.int vb), .val (.int va), .val (.ref w_LINE_START), .val (.int 255), .val (.int 1)] [])) _
    refine XS.iconst X2.here hx rfl (hb hby at_151) ?_
    show Steps p.tables e below (T2.setTop (mkF m 152 #[.val (.int p1), .val (.int p2), .val (.int p3), .val (.int 2), .val (.int vb), .val (.int va), .val (.ref w_LINE_START), .val (.int 255), .val (.int 1)] [(.int 1)])) _
    refine XS.goto X2.here hx rfl (pc0 := 152) (pc' := 156) rfl (hb hby at_152) (by decide) (by decide) ?_
    show Steps p.tables e below (T2.setTop (mkF m 156 #[.val (.int p1), .val (.int p2), .val (.int p3), .val (.int 2), .val (.int vb), .val (.int va), .val (.ref w_LINE_START), .val (.int 255), .val (.int 1)] [(.int 1)])) _
    exact retN X2 hx (t := .boolean) Bd.returns (by simp) (hb hby at_156) hr
  · show Q0_k2t Z p1 p2 p3 vb va w_LINE_START h0 n0 _ T2.heap _
    rw [e2]
    exact ⟨rfl, N2, rfl⟩
def Q1_w_LINE_START_vb_va_rff (Z : State) (w_LINE_START : Addr) (vb : Int32) (va : Int32) (h0 : Heap) (n0 : Nat) (v : Option Value) (h : Heap) (L : List Loc) : Prop := v = some (.int 1) ∧ Fr n0 L ∧ h = h0
set_option maxRecDepth 65536 in
set_option maxHeartbeats 40000000 in
theorem rm1_w_LINE_START_vb_va_rff (l : Launch) (Z : State) (a0 : Array Value) (hw : ∀ d ∈ tables_1, d.before a0 Z = true) (ws : List Jvm.Cond) (w_LINE_START : Addr) (vb : Int32) (va : Int32) (h0 : Heap) (n0 : Nat) (Z0 : n0 ≤ h0.size) (F_ordinal_w_LINE_START : Fld Z h0 w_LINE_START "java/lang/Enum" "ordinal" "I" (.int 2)) (E_w_LINE_START : Exa Z h0 w_LINE_START "com/example/termwell/termwell/core/text/RegexNode$Anchor") (hc79 : ¬ (vb = (0 : Int32))) (hc84 : vb = (1 : Int32)) :
    MetFree l (⟨"com/example/termwell/termwell/core/text/RegexNode$Anchor", "holds", "(II)Z"⟩ : MethodName) (head1 (Jvm.Cond.code (⟨"com/example/termwell/termwell/core/text/RegexNode$Anchor", "holds", "(II)Z"⟩ : MethodName) prog_28_method_5_code 3 (some .boolean) :: ws) ({ frames := 1, cells := 0, slots := 0, locals := 12 } : Room)) (fun a U => a = #[(.ref w_LINE_START), (.int vb), (.int va)] ∧ Z.Warmed39 U.vm ∧ U.heap = h0) (fun _ _ _ _ _ => True) (fun _ U o U' => ∃ v L, o = .returned v ∧ Q1_w_LINE_START_vb_va_rff Z w_LINE_START vb va h0 n0 v U'.heap L ∧ FrameEnd U o U' L ({ frames := 1, cells := 0, slots := 0, locals := 12 } : Room).cells ({ frames := 1, cells := 0, slots := 0, locals := 12 } : Room).slots) := by
  refine MetFree.of_bodySF (plainFor_of_name pn_1) hisR ?_
  intro p e s m args below meth c s₁ Bd hml0 hP hK
  obtain ⟨rfl, hZ, hh⟩ := hP
  have hx := Bd.exec
  have hby := Bd.bytes
  have hml : c.maxLocals = 3 := hml0
  have hown : s.vm.findClass "com/example/termwell/termwell/core/text/RegexNode$Anchor" = some m.cls := findClass_of_methodNamed Bd.named
  have hnm := (name_of_methodNamed Bd.named Bd.method).1
  have X0 : Stand p l e ({ frames := 1, cells := 0, slots := 0, locals := 12 } : Room) s m #[(.ref w_LINE_START), (.int vb), (.int va)] below meth c s₁ [] 0 0 := Stand.of_body Bd
  have e0 : s₁.heap = h0 := by rw [← hh, Bd.state]; rfl
  have N0 := Fr.nil n0
  have pre0 : ∀ t, Steps p.tables e below (s₁.setTop (mkF m 0 #[.val (.ref w_LINE_START), .val (.int vb), .val (.int va)] [])) t → Steps p.tables e below (s₁.setTop (entryFrame m #[(.ref w_LINE_START), (.int vb), (.int va)] 3)) t := fun t k => castTop (by first | (simp [entryFrame, mkF, argsToLocals, Value.category]; done) | rfl) k
  obtain ⟨cq1, kq1, q1a, q1b, q1c⟩ := isOf hZ e0 E_w_LINE_START
  obtain ⟨_, _, ⟨T1, L1, k1, n1⟩, -, X1, ⟨Lc1, hQ1, l1, y1, z1⟩, st1⟩ := X0.virtualBackUp hx (x := (⟨"com/example/termwell/termwell/core/text/RegexNode$Anchor", "ordinal", "()I"⟩ : MethodName)) (y := (⟨"java/lang/Enum", "ordinal", "()I"⟩ : MethodName)) (owner := "java/lang/Enum") hown (mvT hZ (hw _ (List.mem_of_getElem? (i := 9) rfl))) (mvT hZ (hw _ (List.mem_of_getElem? (i := 10) rfl))) (mvT hZ (hw _ (List.mem_of_getElem? (i := 11) rfl))) (by decide) (mvT hZ (hw _ (List.mem_of_getElem? (i := 13) rfl))) (mvT hZ (hw _ (List.mem_of_getElem? (i := 12) rfl))) (backOf (W := 0) (rm2_w_LINE_START l Z a0 hw [] w_LINE_START h0 n0 Z0 F_ordinal_w_LINE_START) hZ (hw _ (List.mem_of_getElem? (i := 15) rfl)) (hw _ (List.mem_of_getElem? (i := 14) rfl)) (by decide) (by decide)) q1a q1c (g := (mkF m 1 #[.val (.ref w_LINE_START), .val (.int vb), .val (.int va)] [(.ref w_LINE_START)])) rfl (by rw [hml]; rfl) (Steps.refl _) (argsL := []) (rest := []) (lenOf pd___I rfl) rfl (by show 2 * 0 + _ ≤ _; exact Nat.le_of_eq rfl) (hb hby d1_1) (fun _ _ => ⟨rfl, e0, (by decide : 0 + 0 ≤ _), (by decide : 0 + 0 ≤ _)⟩)
  dsimp only [Pt.U, Pt.locs, Pt.cells, Pt.slots] at X1 l1 y1 z1 st1 hQ1
  subst l1 y1 z1
  obtain ⟨rfl, N1q, e1⟩ := hQ1
  have N1 := Fr.app N0 N1q
  obtain ⟨fs, hr, hrun, hended, hW, hsame⟩ := X1.leave (v := some (.int 1)) (fun h => by rw [Bd.returns] at h; cases h)
  refine ⟨_, _, pre0 _ ?_, hrun, hended, _, _, rfl, ?_, ⟨_, rfl⟩, hW, hsame.mono (by decide) (by decide)⟩
  · show Steps p.tables e below (s₁.setTop (mkF m 0 #[.val (.ref w_LINE_START), .val (.int vb), .val (.int va)] [])) _
    refine XS.aloadN X0.here hx rfl (hb hby d1_0) rfl rfl ?_
    show Steps p.tables e below (s₁.setTop (mkF m 1 #[.val (.ref w_LINE_START), .val (.int vb), .val (.int va)] [(.ref w_LINE_START)])) _
    refine st1.trans ?_
    show Steps p.tables e below (T1.setTop (mkF m 4 #[.val (.ref w_LINE_START), .val (.int vb), .val (.int va)] [(.int 2)])) _
    refine XS.tswIn X1.here hx rfl (pc0 := 4) (pc' := 78) rfl (hb hby d1_4) rfl (by decide) (o := 74) (by decide) (by decide) (by decide) ?_
    show Steps p.tables e below (T1.setTop (mkF m 78 #[.val (.ref w_LINE_START), .val (.int vb), .val (.int va)] [])) _
    refine XS.iloadN X1.here hx rfl (hb hby d1_78) rfl ?_
    show Steps p.tables e below (T1.setTop (mkF m 79 #[.val (.ref w_LINE_START), .val (.int vb), .val (.int va)] [(.int vb)])) _
    refine XS.ifNo X1.here hx rfl (hb hby d1_79) rfl ((if0 _ _).trans (feq hc79).1) ?_
    show Steps p.tables e below (T1.setTop (mkF m 82 #[.val (.ref w_LINE_START), .val (.int vb), .val (.int va)] [])) _
    refine XS.iloadN X1.here hx rfl (hb hby d1_82) rfl ?_
    show Steps p.tables e below (T1.setTop (mkF m 83 #[.val (.ref w_LINE_START), .val (.int vb), .val (.int va)] [(.int vb)])) _
    refine XS.iconst X1.here hx rfl (hb hby d1_83) ?_
    show Steps p.tables e below (T1.setTop (mkF m 84 #[.val (.ref w_LINE_START), .val (.int vb), .val (.int va)] [(.int 1), (.int vb)])) _
    refine XS.icmpNo X1.here hx rfl (hb hby d1_84) rfl (teq hc84).2 ?_
    show Steps p.tables e below (T1.setTop (mkF m 87 #[.val (.ref w_LINE_START), .val (.int vb), .val (.int va)] [])) _
    refine XS.iconst X1.here hx rfl (hb hby d1_87) ?_
    show Steps p.tables e below (T1.setTop (mkF m 88 #[.val (.ref w_LINE_START), .val (.int vb), .val (.int va)] [(.int 1)])) _
    refine XS.goto X1.here hx rfl (pc0 := 88) (pc' := 171) rfl (hb hby d1_88) (by decide) (by decide) ?_
    show Steps p.tables e below (T1.setTop (mkF m 171 #[.val (.ref w_LINE_START), .val (.int vb), .val (.int va)] [(.int 1)])) _
    exact retN X1 hx (t := .boolean) Bd.returns (by simp) (hb hby d1_171) hr
  · show Q1_w_LINE_START_vb_va_rff Z w_LINE_START vb va h0 n0 _ T1.heap _
    rw [e1]
    exact ⟨rfl, N1, rfl⟩
def Q0_k2ff (Z : State) (p1 : Int32) (p2 : Int32) (p3 : Int32) (vb : Int32) (va : Int32) (w_LINE_START : Addr) (h0 : Heap) (n0 : Nat) (v : Option Value) (h : Heap) (L : List Loc) : Prop := v = some (.int 1) ∧ Fr n0 L ∧ h = h0
set_option maxRecDepth 65536 in
set_option maxHeartbeats 40000000 in
theorem rm0_k2ff (l : Launch) (Z : State) (a0 : Array Value) (hw : ∀ d ∈ tables_1, d.before a0 Z = true) (ws : List Jvm.Cond) (p1 : Int32) (p2 : Int32) (p3 : Int32) (vb : Int32) (va : Int32) (w_LINE_START : Addr) (h0 : Heap) (n0 : Nat) (Z0 : n0 ≤ h0.size) (hk : ((p1 &&& (2147483647 : Int32)) % (6 : Int32)) = (2 : Int32)) (hvb : (p2 &&& (3 : Int32)) = vb) (hva : (p3 &&& (3 : Int32)) = va) (S_LINE_START : Sta Z h0 "com/example/termwell/termwell/core/text/RegexNode$Anchor" "LINE_START" "Lcom/example/termwell/termwell/core/text/RegexNode$Anchor;" (.ref w_LINE_START)) (he : ((((255 : Int32).toUInt32 >>> (((vb * (4 : Int32)) + va) &&& 31).toUInt32).toInt32) &&& (1 : Int32)) = (1 : Int32)) (F_ordinal_w_LINE_START : Fld Z h0 w_LINE_START "java/lang/Enum" "ordinal" "I" (.int 2)) (E_w_LINE_START : Exa Z h0 w_LINE_START "com/example/termwell/termwell/core/text/RegexNode$Anchor") (hc79 : ¬ (vb = (0 : Int32))) (hc84 : vb = (1 : Int32)) :
    MetFree l x (head1 (Jvm.Cond.code x code maxLocals ret :: ws) room_1) (fun a U => a = #[(.int p1), (.int p2), (.int p3)] ∧ Z.Warmed39 U.vm ∧ U.heap = h0) (fun _ _ _ _ _ => True) (fun _ U o U' => ∃ v L, o = .returned v ∧ Q0_k2ff Z p1 p2 p3 vb va w_LINE_START h0 n0 v U'.heap L ∧ FrameEnd U o U' L room_1.cells room_1.slots) := by
  refine MetFree.of_bodySF (plainFor_of_name pn_0) hisR ?_
  intro p e s m args below meth c s₁ Bd hml0 hP hK
  obtain ⟨rfl, hZ, hh⟩ := hP
  have hx := Bd.exec
  have hby := Bd.bytes
  have hml : c.maxLocals = 9 := hml0
  have hown : s.vm.findClass "com/example/termwell/termwell/core/text/AnchorHoldsPinLaw" = some m.cls := findClass_of_methodNamed Bd.named
  have hnm := (name_of_methodNamed Bd.named Bd.method).1
  have X0 : Stand p l e room_1 s m #[(.int p1), (.int p2), (.int p3)] below meth c s₁ [] 0 0 := Stand.of_body Bd
  have e0 : s₁.heap = h0 := by rw [← hh, Bd.state]; rfl
  have N0 := Fr.nil n0
  have pre0 : ∀ t, Steps p.tables e below (s₁.setTop (mkF m 0 #[.val (.int p1), .val (.int p2), .val (.int p3), .unset, .unset, .unset, .unset, .unset, .unset] [])) t → Steps p.tables e below (s₁.setTop (entryFrame m #[(.int p1), (.int p2), (.int p3)] maxLocals)) t := fun t k => castTop (by first | (simp [entryFrame, mkF, argsToLocals, Value.category, maxLocals]; done) | rfl) k
  obtain ⟨T1, X1, e1, st1⟩ := getS2 X0 hx hZ hown (host := "") (Or.inl (hw _ (List.mem_of_getElem? (i := 20) rfl))) Via.refl e0 S_LINE_START (g := (mkF m 57 #[.val (.int p1), .val (.int p2), .val (.int p3), .val (.int 2), .val (.int vb), .val (.int va), .unset, .unset, .unset] [])) rfl (hb hby at_57)
  obtain ⟨cq2, kq2, q2a, q2b, q2c⟩ := isOf hZ e1 E_w_LINE_START
  obtain ⟨_, _, ⟨T2, L2, k2, n2⟩, -, X2, ⟨Lc2, hQ2, l2, y2, z2⟩, st2⟩ := X1.virtualBack hx (y := (⟨"com/example/termwell/termwell/core/text/RegexNode$Anchor", "holds", "(II)Z"⟩ : MethodName)) (z := (⟨"com/example/termwell/termwell/core/text/RegexNode$Anchor", "holds", "(II)Z"⟩ : MethodName)) hown (mvT hZ (hw _ (List.mem_of_getElem? (i := 4) rfl))) (mvT hZ (hw _ (List.mem_of_getElem? (i := 5) rfl))) (notFace_of_selects (args := #[]) (mvT hZ (hw _ (List.mem_of_getElem? (i := 7) rfl)))) (mvT hZ (hw _ (List.mem_of_getElem? (i := 7) rfl))) (mvT hZ (hw _ (List.mem_of_getElem? (i := 6) rfl))) (by decide) (backOf (W := 0) (rm1_w_LINE_START_vb_va_rff l Z a0 hw [] w_LINE_START vb va h0 n0 Z0 F_ordinal_w_LINE_START E_w_LINE_START hc79 hc84) hZ (hw _ (List.mem_of_getElem? (i := 8) rfl)) (hw _ (List.mem_of_getElem? (i := 2) rfl)) (by decide) (by decide)) q2a q2c (g := (mkF m 143 #[.val (.int p1), .val (.int p2), .val (.int p3), .val (.int 2), .val (.int vb), .val (.int va), .val (.ref w_LINE_START), .val (.int 255), .val (.int 1)] [(.int va), (.int vb), (.ref w_LINE_START)])) rfl (by rw [hml]; rfl) (Steps.refl _) (argsL := [(.int vb), (.int va)]) (rest := []) (lenOf pd__II_Z rfl) rfl (by show 2 * 0 + _ ≤ _; exact Nat.le_of_eq rfl) (hb hby at_143) (fun _ _ => ⟨rfl, e1, (by decide : 0 + 0 ≤ _), (by decide : 0 + 0 ≤ _)⟩)
  dsimp only [Pt.U, Pt.locs, Pt.cells, Pt.slots] at X2 l2 y2 z2 st2 hQ2
  subst l2 y2 z2
  obtain ⟨rfl, N2q, e2⟩ := hQ2
  have N2 := Fr.app N0 N2q
  obtain ⟨fs, hr, hrun, hended, hW, hsame⟩ := X2.leave (v := some (.int 1)) (fun h => by rw [Bd.returns] at h; cases h)
  refine ⟨_, _, pre0 _ ?_, hrun, hended, _, _, rfl, ?_, ⟨_, rfl⟩, hW, hsame.mono (by decide) (by decide)⟩
  · show Steps p.tables e below (s₁.setTop (mkF m 0 #[.val (.int p1), .val (.int p2), .val (.int p3), .unset, .unset, .unset, .unset, .unset, .unset] [])) _
    refine XS.iloadN X0.here hx rfl (hb hby at_0) rfl ?_
    show Steps p.tables e below (s₁.setTop (mkF m 1 #[.val (.int p1), .val (.int p2), .val (.int p3), .unset, .unset, .unset, .unset, .unset, .unset] [(.int p1)])) _
    refine X0.ldcInt hx hown (mvT hZ (hw _ (List.mem_of_getElem? (i := 0) rfl))) (g := (mkF m 1 #[.val (.int p1), .val (.int p2), .val (.int p3), .unset, .unset, .unset, .unset, .unset, .unset] [(.int p1)])) rfl (hb hby at_1) _ ?_
    show Steps p.tables e below (s₁.setTop (mkF m 3 #[.val (.int p1), .val (.int p2), .val (.int p3), .unset, .unset, .unset, .unset, .unset, .unset] [(.int 2147483647), (.int p1)])) _
    refine XS.iand X0.here hx rfl (hb hby at_3) rfl ?_
    show Steps p.tables e below (s₁.setTop (mkF m 4 #[.val (.int p1), .val (.int p2), .val (.int p3), .unset, .unset, .unset, .unset, .unset, .unset] [(.int (p1 &&& (2147483647 : Int32)))])) _
    refine XS.bipush X0.here hx rfl (hb hby at_4) ?_
    show Steps p.tables e below (s₁.setTop (mkF m 6 #[.val (.int p1), .val (.int p2), .val (.int p3), .unset, .unset, .unset, .unset, .unset, .unset] [(.int 6), (.int (p1 &&& (2147483647 : Int32)))])) _
    refine iremM X0 hx rfl (hb hby at_6) rfl (by decide) ?_
    show Steps p.tables e below (s₁.setTop (mkF m 7 #[.val (.int p1), .val (.int p2), .val (.int p3), .unset, .unset, .unset, .unset, .unset, .unset] [(.int ((p1 &&& (2147483647 : Int32)) % (6 : Int32)))])) _
    rw [hk]
    show Steps p.tables e below (s₁.setTop (mkF m 7 #[.val (.int p1), .val (.int p2), .val (.int p3), .unset, .unset, .unset, .unset, .unset, .unset] [(.int 2)])) _
    refine XS.istoreN X0.here hx rfl (hb hby at_7) rfl (l' := #[.val (.int p1), .val (.int p2), .val (.int p3), .val (.int 2), .unset, .unset, .unset, .unset, .unset]) rfl ?_
    show Steps p.tables e below (s₁.setTop (mkF m 8 #[.val (.int p1), .val (.int p2), .val (.int p3), .val (.int 2), .unset, .unset, .unset, .unset, .unset] [])) _
    refine XS.iloadN X0.here hx rfl (hb hby at_8) rfl ?_
    show Steps p.tables e below (s₁.setTop (mkF m 9 #[.val (.int p1), .val (.int p2), .val (.int p3), .val (.int 2), .unset, .unset, .unset, .unset, .unset] [(.int p2)])) _
    refine XS.iconst X0.here hx rfl (hb hby at_9) ?_
    show Steps p.tables e below (s₁.setTop (mkF m 10 #[.val (.int p1), .val (.int p2), .val (.int p3), .val (.int 2), .unset, .unset, .unset, .unset, .unset] [(.int 3), (.int p2)])) _
    refine XS.iand X0.here hx rfl (hb hby at_10) rfl ?_
    show Steps p.tables e below (s₁.setTop (mkF m 11 #[.val (.int p1), .val (.int p2), .val (.int p3), .val (.int 2), .unset, .unset, .unset, .unset, .unset] [(.int (p2 &&& (3 : Int32)))])) _
    rw [hvb]
    show Steps p.tables e below (s₁.setTop (mkF m 11 #[.val (.int p1), .val (.int p2), .val (.int p3), .val (.int 2), .unset, .unset, .unset, .unset, .unset] [(.int vb)])) _
    refine XS.istore X0.here hx rfl (hb hby at_11) rfl (l' := #[.val (.int p1), .val (.int p2), .val (.int p3), .val (.int 2), .val (.int vb), .unset, .unset, .unset, .unset]) rfl ?_
    show Steps p.tables e below (s₁.setTop (mkF m 13 #[.val (.int p1), .val (.int p2), .val (.int p3), .val (.int 2), .val (.int vb), .unset, .unset, .unset, .unset] [])) _
    refine XS.iloadN X0.here hx rfl (hb hby at_13) rfl ?_
    show Steps p.tables e below (s₁.setTop (mkF m 14 #[.val (.int p1), .val (.int p2), .val (.int p3), .val (.int 2), .val (.int vb), .unset, .unset, .unset, .unset] [(.int p3)])) _
    refine XS.iconst X0.here hx rfl (hb hby at_14) ?_
    show Steps p.tables e below (s₁.setTop (mkF m 15 #[.val (.int p1), .val (.int p2), .val (.int p3), .val (.int 2), .val (.int vb), .unset, .unset, .unset, .unset] [(.int 3), (.int p3)])) _
    refine XS.iand X0.here hx rfl (hb hby at_15) rfl ?_
    show Steps p.tables e below (s₁.setTop (mkF m 16 #[.val (.int p1), .val (.int p2), .val (.int p3), .val (.int 2), .val (.int vb), .unset, .unset, .unset, .unset] [(.int (p3 &&& (3 : Int32)))])) _
    rw [hva]
    show Steps p.tables e below (s₁.setTop (mkF m 16 #[.val (.int p1), .val (.int p2), .val (.int p3), .val (.int 2), .val (.int vb), .unset, .unset, .unset, .unset] [(.int va)])) _
    refine XS.istore X0.here hx rfl (hb hby at_16) rfl (l' := #[.val (.int p1), .val (.int p2), .val (.int p3), .val (.int 2), .val (.int vb), .val (.int va), .unset, .unset, .unset]) rfl ?_
    show Steps p.tables e below (s₁.setTop (mkF m 18 #[.val (.int p1), .val (.int p2), .val (.int p3), .val (.int 2), .val (.int vb), .val (.int va), .unset, .unset, .unset] [])) _
    refine XS.iloadN X0.here hx rfl (hb hby at_18) rfl ?_
    show Steps p.tables e below (s₁.setTop (mkF m 19 #[.val (.int p1), .val (.int p2), .val (.int p3), .val (.int 2), .val (.int vb), .val (.int va), .unset, .unset, .unset] [(.int 2)])) _
    refine XS.ifYes X0.here hx rfl (pc0 := 19) (pc' := 34) rfl (hb hby at_19) rfl ((if0 _ _).trans (feq (by decide : ¬ ((2 : Int32) = (0 : Int32)))).2) (by decide) (by decide) ?_
    show Steps p.tables e below (s₁.setTop (mkF m 34 #[.val (.int p1), .val (.int p2), .val (.int p3), .val (.int 2), .val (.int vb), .val (.int va), .unset, .unset, .unset] [])) _
    refine XS.iloadN X0.here hx rfl (hb hby at_34) rfl ?_
    show Steps p.tables e below (s₁.setTop (mkF m 35 #[.val (.int p1), .val (.int p2), .val (.int p3), .val (.int 2), .val (.int vb), .val (.int va), .unset, .unset, .unset] [(.int 2)])) _
    refine XS.iconst X0.here hx rfl (hb hby at_35) ?_
    show Steps p.tables e below (s₁.setTop (mkF m 36 #[.val (.int p1), .val (.int p2), .val (.int p3), .val (.int 2), .val (.int vb), .val (.int va), .unset, .unset, .unset] [(.int 1), (.int 2)])) _
    refine XS.icmpYes X0.here hx rfl (pc0 := 36) (pc' := 52) rfl (hb hby at_36) rfl (feq (by decide : ¬ ((2 : Int32) = (1 : Int32)))).2 (by decide) (by decide) ?_
    show Steps p.tables e below (s₁.setTop (mkF m 52 #[.val (.int p1), .val (.int p2), .val (.int p3), .val (.int 2), .val (.int vb), .val (.int va), .unset, .unset, .unset] [])) _
    refine XS.iloadN X0.here hx rfl (hb hby at_52) rfl ?_
    show Steps p.tables e below (s₁.setTop (mkF m 53 #[.val (.int p1), .val (.int p2), .val (.int p3), .val (.int 2), .val (.int vb), .val (.int va), .unset, .unset, .unset] [(.int 2)])) _
    refine XS.iconst X0.here hx rfl (hb hby at_53) ?_
    show Steps p.tables e below (s₁.setTop (mkF m 54 #[.val (.int p1), .val (.int p2), .val (.int p3), .val (.int 2), .val (.int vb), .val (.int va), .unset, .unset, .unset] [(.int 2), (.int 2)])) _
    refine XS.icmpNo X0.here hx rfl (hb hby at_54) rfl (teq (by decide : (2 : Int32) = (2 : Int32))).2 ?_
    show Steps p.tables e below (s₁.setTop (mkF m 57 #[.val (.int p1), .val (.int p2), .val (.int p3), .val (.int 2), .val (.int vb), .val (.int va), .unset, .unset, .unset] [])) _
    refine st1 _ ?_
    show Steps p.tables e below (T1.setTop (mkF m 60 #[.val (.int p1), .val (.int p2), .val (.int p3), .val (.int 2), .val (.int vb), .val (.int va), .unset, .unset, .unset] [(.ref w_LINE_START)])) _
    refine XS.astore X1.here hx rfl (hb hby at_60) rfl rfl (l' := #[.val (.int p1), .val (.int p2), .val (.int p3), .val (.int 2), .val (.int vb), .val (.int va), .val (.ref w_LINE_START), .unset, .unset]) rfl ?_
    show Steps p.tables e below (T1.setTop (mkF m 62 #[.val (.int p1), .val (.int p2), .val (.int p3), .val (.int 2), .val (.int vb), .val (.int va), .val (.ref w_LINE_START), .unset, .unset] [])) _
    refine XS.sipush X1.here hx rfl (hb hby at_62) ?_
    show Steps p.tables e below (T1.setTop (mkF m 65 #[.val (.int p1), .val (.int p2), .val (.int p3), .val (.int 2), .val (.int vb), .val (.int va), .val (.ref w_LINE_START), .unset, .unset] [(.int 255)])) _
    refine XS.istore X1.here hx rfl (hb hby at_65) rfl (l' := #[.val (.int p1), .val (.int p2), .val (.int p3), .val (.int 2), .val (.int vb), .val (.int va), .val (.ref w_LINE_START), .val (.int 255), .unset]) rfl ?_
    show Steps p.tables e below (T1.setTop (mkF m 67 #[.val (.int p1), .val (.int p2), .val (.int p3), .val (.int 2), .val (.int vb), .val (.int va), .val (.ref w_LINE_START), .val (.int 255), .unset] [])) _
    refine XS.goto X1.here hx rfl (pc0 := 67) (pc' := 115) rfl (hb hby at_67) (by decide) (by decide) ?_
    show Steps p.tables e below (T1.setTop (mkF m 115 #[.val (.int p1), .val (.int p2), .val (.int p3), .val (.int 2), .val (.int vb), .val (.int va), .val (.ref w_LINE_START), .val (.int 255), .unset] [])) _
    refine XS.iload X1.here hx rfl (hb hby at_115) rfl ?_
    show Steps p.tables e below (T1.setTop (mkF m 117 #[.val (.int p1), .val (.int p2), .val (.int p3), .val (.int 2), .val (.int vb), .val (.int va), .val (.ref w_LINE_START), .val (.int 255), .unset] [(.int 255)])) _
    refine XS.iload X1.here hx rfl (hb hby at_117) rfl ?_
    show Steps p.tables e below (T1.setTop (mkF m 119 #[.val (.int p1), .val (.int p2), .val (.int p3), .val (.int 2), .val (.int vb), .val (.int va), .val (.ref w_LINE_START), .val (.int 255), .unset] [(.int vb), (.int 255)])) _
    refine XS.iconst X1.here hx rfl (hb hby at_119) ?_
    show Steps p.tables e below (T1.setTop (mkF m 120 #[.val (.int p1), .val (.int p2), .val (.int p3), .val (.int 2), .val (.int vb), .val (.int va), .val (.ref w_LINE_START), .val (.int 255), .unset] [(.int 4), (.int vb), (.int 255)])) _
    refine XS.imul X1.here hx rfl (hb hby at_120) rfl ?_
    show Steps p.tables e below (T1.setTop (mkF m 121 #[.val (.int p1), .val (.int p2), .val (.int p3), .val (.int 2), .val (.int vb), .val (.int va), .val (.ref w_LINE_START), .val (.int 255), .unset] [(.int (vb * (4 : Int32))), (.int 255)])) _
    refine XS.iload X1.here hx rfl (hb hby at_121) rfl ?_
    show Steps p.tables e below (T1.setTop (mkF m 123 #[.val (.int p1), .val (.int p2), .val (.int p3), .val (.int 2), .val (.int vb), .val (.int va), .val (.ref w_LINE_START), .val (.int 255), .unset] [(.int va), (.int (vb * (4 : Int32))), (.int 255)])) _
    refine XS.iadd X1.here hx rfl (hb hby at_123) rfl ?_
    show Steps p.tables e below (T1.setTop (mkF m 124 #[.val (.int p1), .val (.int p2), .val (.int p3), .val (.int 2), .val (.int vb), .val (.int va), .val (.ref w_LINE_START), .val (.int 255), .unset] [(.int ((vb * (4 : Int32)) + va)), (.int 255)])) _
    refine XS.iushr X1.here hx rfl (hb hby at_124) rfl ?_
    show Steps p.tables e below (T1.setTop (mkF m 125 #[.val (.int p1), .val (.int p2), .val (.int p3), .val (.int 2), .val (.int vb), .val (.int va), .val (.ref w_LINE_START), .val (.int 255), .unset] [(.int (((255 : Int32).toUInt32 >>> (((vb * (4 : Int32)) + va) &&& 31).toUInt32).toInt32))])) _
    refine XS.iconst X1.here hx rfl (hb hby at_125) ?_
    show Steps p.tables e below (T1.setTop (mkF m 126 #[.val (.int p1), .val (.int p2), .val (.int p3), .val (.int 2), .val (.int vb), .val (.int va), .val (.ref w_LINE_START), .val (.int 255), .unset] [(.int 1), (.int (((255 : Int32).toUInt32 >>> (((vb * (4 : Int32)) + va) &&& 31).toUInt32).toInt32))])) _
    refine XS.iand X1.here hx rfl (hb hby at_126) rfl ?_
    show Steps p.tables e below (T1.setTop (mkF m 127 #[.val (.int p1), .val (.int p2), .val (.int p3), .val (.int 2), .val (.int vb), .val (.int va), .val (.ref w_LINE_START), .val (.int 255), .unset] [(.int ((((255 : Int32).toUInt32 >>> (((vb * (4 : Int32)) + va) &&& 31).toUInt32).toInt32) &&& (1 : Int32)))])) _
    rw [he]
    show Steps p.tables e below (T1.setTop (mkF m 127 #[.val (.int p1), .val (.int p2), .val (.int p3), .val (.int 2), .val (.int vb), .val (.int va), .val (.ref w_LINE_START), .val (.int 255), .unset] [(.int 1)])) _
    refine XS.ifNo X1.here hx rfl (hb hby at_127) rfl ((if0 _ _).trans (feq (by decide : ¬ ((1 : Int32) = (0 : Int32)))).1) ?_
    show Steps p.tables e below (T1.setTop (mkF m 130 #[.val (.int p1), .val (.int p2), .val (.int p3), .val (.int 2), .val (.int vb), .val (.int va), .val (.ref w_LINE_START), .val (.int 255), .unset] [])) _
    refine XS.iconst X1.here hx rfl (hb hby at_130) ?_
    show Steps p.tables e below (T1.setTop (mkF m 131 #[.val (.int p1), .val (.int p2), .val (.int p3), .val (.int 2), .val (.int vb), .val (.int va), .val (.ref w_LINE_START), .val (.int 255), .unset] [(.int 1)])) _
    refine XS.goto X1.here hx rfl (pc0 := 131) (pc' := 135) rfl (hb hby at_131) (by decide) (by decide) ?_
    show Steps p.tables e below (T1.setTop (mkF m 135 #[.val (.int p1), .val (.int p2), .val (.int p3), .val (.int 2), .val (.int vb), .val (.int va), .val (.ref w_LINE_START), .val (.int 255), .unset] [(.int 1)])) _
    refine XS.istore X1.here hx rfl (hb hby at_135) rfl (l' := #[.val (.int p1), .val (.int p2), .val (.int p3), .val (.int 2), .val (.int vb), .val (.int va), .val (.ref w_LINE_START), .val (.int 255), .val (.int 1)]) rfl ?_
    show Steps p.tables e below (T1.setTop (mkF m 137 #[.val (.int p1), .val (.int p2), .val (.int p3), .val (.int 2), .val (.int vb), .val (.int va), .val (.ref w_LINE_START), .val (.int 255), .val (.int 1)] [])) _
    refine XS.aload X1.here hx rfl (hb hby at_137) rfl rfl ?_
    show Steps p.tables e below (T1.setTop (mkF m 139 #[.val (.int p1), .val (.int p2), .val (.int p3), .val (.int 2), .val (.int vb), .val (.int va), .val (.ref w_LINE_START), .val (.int 255), .val (.int 1)] [(.ref w_LINE_START)])) _
    refine XS.iload X1.here hx rfl (hb hby at_139) rfl ?_
    show Steps p.tables e below (T1.setTop (mkF m 141 #[.val (.int p1), .val (.int p2), .val (.int p3), .val (.int 2), .val (.int vb), .val (.int va), .val (.ref w_LINE_START), .val (.int 255), .val (.int 1)] [(.int vb), (.ref w_LINE_START)])) _
    refine XS.iload X1.here hx rfl (hb hby at_141) rfl ?_
    show Steps p.tables e below (T1.setTop (mkF m 143 #[.val (.int p1), .val (.int p2), .val (.int p3), .val (.int 2), .val (.int vb), .val (.int va), .val (.ref w_LINE_START), .val (.int 255), .val (.int 1)] [(.int va), (.int vb), (.ref w_LINE_START)])) _
    refine st2.trans ?_
    show Steps p.tables e below (T2.setTop (mkF m 146 #[.val (.int p1), .val (.int p2), .val (.int p3), .val (.int 2), .val (.int vb), .val (.int va), .val (.ref w_LINE_START), .val (.int 255), .val (.int 1)] [(.int 1)])) _
    refine XS.iload X2.here hx rfl (hb hby at_146) rfl ?_
    show Steps p.tables e below (T2.setTop (mkF m 148 #[.val (.int p1), .val (.int p2), .val (.int p3), .val (.int 2), .val (.int vb), .val (.int va), .val (.ref w_LINE_START), .val (.int 255), .val (.int 1)] [(.int 1), (.int 1)])) _
    refine XS.icmpNo X2.here hx rfl (hb hby at_148) rfl (teq (by decide : (1 : Int32) = (1 : Int32))).2 ?_
    show Steps p.tables e below (T2.setTop (mkF m 151 #[.val (.int p1), .val (.int p2), .val (.int p3), .val (.int 2), .val (.int vb), .val (.int va), .val (.ref w_LINE_START), .val (.int 255), .val (.int 1)] [])) _
    refine XS.iconst X2.here hx rfl (hb hby at_151) ?_
    show Steps p.tables e below (T2.setTop (mkF m 152 #[.val (.int p1), .val (.int p2), .val (.int p3), .val (.int 2), .val (.int vb), .val (.int va), .val (.ref w_LINE_START), .val (.int 255), .val (.int 1)] [(.int 1)])) _
    refine XS.goto X2.here hx rfl (pc0 := 152) (pc' := 156) rfl (hb hby at_152) (by decide) (by decide) ?_
    show Steps p.tables e below (T2.setTop (mkF m 156 #[.val (.int p1), .val (.int p2), .val (.int p3), .val (.int 2), .val (.int vb), .val (.int va), .val (.ref w_LINE_START), .val (.int 255), .val (.int 1)] [(.int 1)])) _
    exact retN X2 hx (t := .boolean) Bd.returns (by simp) (hb hby at_156) hr
  · show Q0_k2ff Z p1 p2 p3 vb va w_LINE_START h0 n0 _ T2.heap _
    rw [e2]
    exact ⟨rfl, N2, rfl⟩
def Q1_w_LINE_START_vb_va_rft (Z : State) (w_LINE_START : Addr) (vb : Int32) (va : Int32) (h0 : Heap) (n0 : Nat) (v : Option Value) (h : Heap) (L : List Loc) : Prop := v = some (.int 0) ∧ Fr n0 L ∧ h = h0
set_option maxRecDepth 65536 in
set_option maxHeartbeats 40000000 in
theorem rm1_w_LINE_START_vb_va_rft (l : Launch) (Z : State) (a0 : Array Value) (hw : ∀ d ∈ tables_1, d.before a0 Z = true) (ws : List Jvm.Cond) (w_LINE_START : Addr) (vb : Int32) (va : Int32) (h0 : Heap) (n0 : Nat) (Z0 : n0 ≤ h0.size) (F_ordinal_w_LINE_START : Fld Z h0 w_LINE_START "java/lang/Enum" "ordinal" "I" (.int 2)) (E_w_LINE_START : Exa Z h0 w_LINE_START "com/example/termwell/termwell/core/text/RegexNode$Anchor") (hc79 : ¬ (vb = (0 : Int32))) (hc84 : ¬ (vb = (1 : Int32))) :
    MetFree l (⟨"com/example/termwell/termwell/core/text/RegexNode$Anchor", "holds", "(II)Z"⟩ : MethodName) (head1 (Jvm.Cond.code (⟨"com/example/termwell/termwell/core/text/RegexNode$Anchor", "holds", "(II)Z"⟩ : MethodName) prog_28_method_5_code 3 (some .boolean) :: ws) ({ frames := 1, cells := 0, slots := 0, locals := 12 } : Room)) (fun a U => a = #[(.ref w_LINE_START), (.int vb), (.int va)] ∧ Z.Warmed39 U.vm ∧ U.heap = h0) (fun _ _ _ _ _ => True) (fun _ U o U' => ∃ v L, o = .returned v ∧ Q1_w_LINE_START_vb_va_rft Z w_LINE_START vb va h0 n0 v U'.heap L ∧ FrameEnd U o U' L ({ frames := 1, cells := 0, slots := 0, locals := 12 } : Room).cells ({ frames := 1, cells := 0, slots := 0, locals := 12 } : Room).slots) := by
  refine MetFree.of_bodySF (plainFor_of_name pn_1) hisR ?_
  intro p e s m args below meth c s₁ Bd hml0 hP hK
  obtain ⟨rfl, hZ, hh⟩ := hP
  have hx := Bd.exec
  have hby := Bd.bytes
  have hml : c.maxLocals = 3 := hml0
  have hown : s.vm.findClass "com/example/termwell/termwell/core/text/RegexNode$Anchor" = some m.cls := findClass_of_methodNamed Bd.named
  have hnm := (name_of_methodNamed Bd.named Bd.method).1
  have X0 : Stand p l e ({ frames := 1, cells := 0, slots := 0, locals := 12 } : Room) s m #[(.ref w_LINE_START), (.int vb), (.int va)] below meth c s₁ [] 0 0 := Stand.of_body Bd
  have e0 : s₁.heap = h0 := by rw [← hh, Bd.state]; rfl
  have N0 := Fr.nil n0
  have pre0 : ∀ t, Steps p.tables e below (s₁.setTop (mkF m 0 #[.val (.ref w_LINE_START), .val (.int vb), .val (.int va)] [])) t → Steps p.tables e below (s₁.setTop (entryFrame m #[(.ref w_LINE_START), (.int vb), (.int va)] 3)) t := fun t k => castTop (by first | (simp [entryFrame, mkF, argsToLocals, Value.category]; done) | rfl) k
  obtain ⟨cq1, kq1, q1a, q1b, q1c⟩ := isOf hZ e0 E_w_LINE_START
  obtain ⟨_, _, ⟨T1, L1, k1, n1⟩, -, X1, ⟨Lc1, hQ1, l1, y1, z1⟩, st1⟩ := X0.virtualBackUp hx (x := (⟨"com/example/termwell/termwell/core/text/RegexNode$Anchor", "ordinal", "()I"⟩ : MethodName)) (y := (⟨"java/lang/Enum", "ordinal", "()I"⟩ : MethodName)) (owner := "java/lang/Enum") hown (mvT hZ (hw _ (List.mem_of_getElem? (i := 9) rfl))) (mvT hZ (hw _ (List.mem_of_getElem? (i := 10) rfl))) (mvT hZ (hw _ (List.mem_of_getElem? (i := 11) rfl))) (by decide) (mvT hZ (hw _ (List.mem_of_getElem? (i := 13) rfl))) (mvT hZ (hw _ (List.mem_of_getElem? (i := 12) rfl))) (backOf (W := 0) (rm2_w_LINE_START l Z a0 hw [] w_LINE_START h0 n0 Z0 F_ordinal_w_LINE_START) hZ (hw _ (List.mem_of_getElem? (i := 15) rfl)) (hw _ (List.mem_of_getElem? (i := 14) rfl)) (by decide) (by decide)) q1a q1c (g := (mkF m 1 #[.val (.ref w_LINE_START), .val (.int vb), .val (.int va)] [(.ref w_LINE_START)])) rfl (by rw [hml]; rfl) (Steps.refl _) (argsL := []) (rest := []) (lenOf pd___I rfl) rfl (by show 2 * 0 + _ ≤ _; exact Nat.le_of_eq rfl) (hb hby d1_1) (fun _ _ => ⟨rfl, e0, (by decide : 0 + 0 ≤ _), (by decide : 0 + 0 ≤ _)⟩)
  dsimp only [Pt.U, Pt.locs, Pt.cells, Pt.slots] at X1 l1 y1 z1 st1 hQ1
  subst l1 y1 z1
  obtain ⟨rfl, N1q, e1⟩ := hQ1
  have N1 := Fr.app N0 N1q
  obtain ⟨fs, hr, hrun, hended, hW, hsame⟩ := X1.leave (v := some (.int 0)) (fun h => by rw [Bd.returns] at h; cases h)
  refine ⟨_, _, pre0 _ ?_, hrun, hended, _, _, rfl, ?_, ⟨_, rfl⟩, hW, hsame.mono (by decide) (by decide)⟩
  · show Steps p.tables e below (s₁.setTop (mkF m 0 #[.val (.ref w_LINE_START), .val (.int vb), .val (.int va)] [])) _
    refine XS.aloadN X0.here hx rfl (hb hby d1_0) rfl rfl ?_
    show Steps p.tables e below (s₁.setTop (mkF m 1 #[.val (.ref w_LINE_START), .val (.int vb), .val (.int va)] [(.ref w_LINE_START)])) _
    refine st1.trans ?_
    show Steps p.tables e below (T1.setTop (mkF m 4 #[.val (.ref w_LINE_START), .val (.int vb), .val (.int va)] [(.int 2)])) _
    refine XS.tswIn X1.here hx rfl (pc0 := 4) (pc' := 78) rfl (hb hby d1_4) rfl (by decide) (o := 74) (by decide) (by decide) (by decide) ?_
    show Steps p.tables e below (T1.setTop (mkF m 78 #[.val (.ref w_LINE_START), .val (.int vb), .val (.int va)] [])) _
    refine XS.iloadN X1.here hx rfl (hb hby d1_78) rfl ?_
    show Steps p.tables e below (T1.setTop (mkF m 79 #[.val (.ref w_LINE_START), .val (.int vb), .val (.int va)] [(.int vb)])) _
    refine XS.ifNo X1.here hx rfl (hb hby d1_79) rfl ((if0 _ _).trans (feq hc79).1) ?_
    show Steps p.tables e below (T1.setTop (mkF m 82 #[.val (.ref w_LINE_START), .val (.int vb), .val (.int va)] [])) _
    refine XS.iloadN X1.here hx rfl (hb hby d1_82) rfl ?_
    show Steps p.tables e below (T1.setTop (mkF m 83 #[.val (.ref w_LINE_START), .val (.int vb), .val (.int va)] [(.int vb)])) _
    refine XS.iconst X1.here hx rfl (hb hby d1_83) ?_
    show Steps p.tables e below (T1.setTop (mkF m 84 #[.val (.ref w_LINE_START), .val (.int vb), .val (.int va)] [(.int 1), (.int vb)])) _
    refine XS.icmpYes X1.here hx rfl (pc0 := 84) (pc' := 91) rfl (hb hby d1_84) rfl (feq hc84).2 (by decide) (by decide) ?_
    show Steps p.tables e below (T1.setTop (mkF m 91 #[.val (.ref w_LINE_START), .val (.int vb), .val (.int va)] [])) _
    refine XS.iconst X1.here hx rfl (hb hby d1_91) ?_
    show Steps p.tables e below (T1.setTop (mkF m 92 #[.val (.ref w_LINE_START), .val (.int vb), .val (.int va)] [(.int 0)])) _
    refine XS.goto X1.here hx rfl (pc0 := 92) (pc' := 171) rfl (hb hby d1_92) (by decide) (by decide) ?_
    show Steps p.tables e below (T1.setTop (mkF m 171 #[.val (.ref w_LINE_START), .val (.int vb), .val (.int va)] [(.int 0)])) _
    exact retN X1 hx (t := .boolean) Bd.returns (by simp) (hb hby d1_171) hr
  · show Q1_w_LINE_START_vb_va_rft Z w_LINE_START vb va h0 n0 _ T1.heap _
    rw [e1]
    exact ⟨rfl, N1, rfl⟩
def Q0_k2ft (Z : State) (p1 : Int32) (p2 : Int32) (p3 : Int32) (vb : Int32) (va : Int32) (w_LINE_START : Addr) (h0 : Heap) (n0 : Nat) (v : Option Value) (h : Heap) (L : List Loc) : Prop := v = some (.int 1) ∧ Fr n0 L ∧ h = h0
set_option maxRecDepth 65536 in
set_option maxHeartbeats 40000000 in
theorem rm0_k2ft (l : Launch) (Z : State) (a0 : Array Value) (hw : ∀ d ∈ tables_1, d.before a0 Z = true) (ws : List Jvm.Cond) (p1 : Int32) (p2 : Int32) (p3 : Int32) (vb : Int32) (va : Int32) (w_LINE_START : Addr) (h0 : Heap) (n0 : Nat) (Z0 : n0 ≤ h0.size) (hk : ((p1 &&& (2147483647 : Int32)) % (6 : Int32)) = (2 : Int32)) (hvb : (p2 &&& (3 : Int32)) = vb) (hva : (p3 &&& (3 : Int32)) = va) (S_LINE_START : Sta Z h0 "com/example/termwell/termwell/core/text/RegexNode$Anchor" "LINE_START" "Lcom/example/termwell/termwell/core/text/RegexNode$Anchor;" (.ref w_LINE_START)) (he : ((((255 : Int32).toUInt32 >>> (((vb * (4 : Int32)) + va) &&& 31).toUInt32).toInt32) &&& (1 : Int32)) = (0 : Int32)) (F_ordinal_w_LINE_START : Fld Z h0 w_LINE_START "java/lang/Enum" "ordinal" "I" (.int 2)) (E_w_LINE_START : Exa Z h0 w_LINE_START "com/example/termwell/termwell/core/text/RegexNode$Anchor") (hc79 : ¬ (vb = (0 : Int32))) (hc84 : ¬ (vb = (1 : Int32))) :
    MetFree l x (head1 (Jvm.Cond.code x code maxLocals ret :: ws) room_1) (fun a U => a = #[(.int p1), (.int p2), (.int p3)] ∧ Z.Warmed39 U.vm ∧ U.heap = h0) (fun _ _ _ _ _ => True) (fun _ U o U' => ∃ v L, o = .returned v ∧ Q0_k2ft Z p1 p2 p3 vb va w_LINE_START h0 n0 v U'.heap L ∧ FrameEnd U o U' L room_1.cells room_1.slots) := by
  refine MetFree.of_bodySF (plainFor_of_name pn_0) hisR ?_
  intro p e s m args below meth c s₁ Bd hml0 hP hK
  obtain ⟨rfl, hZ, hh⟩ := hP
  have hx := Bd.exec
  have hby := Bd.bytes
  have hml : c.maxLocals = 9 := hml0
  have hown : s.vm.findClass "com/example/termwell/termwell/core/text/AnchorHoldsPinLaw" = some m.cls := findClass_of_methodNamed Bd.named
  have hnm := (name_of_methodNamed Bd.named Bd.method).1
  have X0 : Stand p l e room_1 s m #[(.int p1), (.int p2), (.int p3)] below meth c s₁ [] 0 0 := Stand.of_body Bd
  have e0 : s₁.heap = h0 := by rw [← hh, Bd.state]; rfl
  have N0 := Fr.nil n0
  have pre0 : ∀ t, Steps p.tables e below (s₁.setTop (mkF m 0 #[.val (.int p1), .val (.int p2), .val (.int p3), .unset, .unset, .unset, .unset, .unset, .unset] [])) t → Steps p.tables e below (s₁.setTop (entryFrame m #[(.int p1), (.int p2), (.int p3)] maxLocals)) t := fun t k => castTop (by first | (simp [entryFrame, mkF, argsToLocals, Value.category, maxLocals]; done) | rfl) k
  obtain ⟨T1, X1, e1, st1⟩ := getS2 X0 hx hZ hown (host := "") (Or.inl (hw _ (List.mem_of_getElem? (i := 20) rfl))) Via.refl e0 S_LINE_START (g := (mkF m 57 #[.val (.int p1), .val (.int p2), .val (.int p3), .val (.int 2), .val (.int vb), .val (.int va), .unset, .unset, .unset] [])) rfl (hb hby at_57)
  obtain ⟨cq2, kq2, q2a, q2b, q2c⟩ := isOf hZ e1 E_w_LINE_START
  obtain ⟨_, _, ⟨T2, L2, k2, n2⟩, -, X2, ⟨Lc2, hQ2, l2, y2, z2⟩, st2⟩ := X1.virtualBack hx (y := (⟨"com/example/termwell/termwell/core/text/RegexNode$Anchor", "holds", "(II)Z"⟩ : MethodName)) (z := (⟨"com/example/termwell/termwell/core/text/RegexNode$Anchor", "holds", "(II)Z"⟩ : MethodName)) hown (mvT hZ (hw _ (List.mem_of_getElem? (i := 4) rfl))) (mvT hZ (hw _ (List.mem_of_getElem? (i := 5) rfl))) (notFace_of_selects (args := #[]) (mvT hZ (hw _ (List.mem_of_getElem? (i := 7) rfl)))) (mvT hZ (hw _ (List.mem_of_getElem? (i := 7) rfl))) (mvT hZ (hw _ (List.mem_of_getElem? (i := 6) rfl))) (by decide) (backOf (W := 0) (rm1_w_LINE_START_vb_va_rft l Z a0 hw [] w_LINE_START vb va h0 n0 Z0 F_ordinal_w_LINE_START E_w_LINE_START hc79 hc84) hZ (hw _ (List.mem_of_getElem? (i := 8) rfl)) (hw _ (List.mem_of_getElem? (i := 2) rfl)) (by decide) (by decide)) q2a q2c (g := (mkF m 143 #[.val (.int p1), .val (.int p2), .val (.int p3), .val (.int 2), .val (.int vb), .val (.int va), .val (.ref w_LINE_START), .val (.int 255), .val (.int 0)] [(.int va), (.int vb), (.ref w_LINE_START)])) rfl (by rw [hml]; rfl) (Steps.refl _) (argsL := [(.int vb), (.int va)]) (rest := []) (lenOf pd__II_Z rfl) rfl (by show 2 * 0 + _ ≤ _; exact Nat.le_of_eq rfl) (hb hby at_143) (fun _ _ => ⟨rfl, e1, (by decide : 0 + 0 ≤ _), (by decide : 0 + 0 ≤ _)⟩)
  dsimp only [Pt.U, Pt.locs, Pt.cells, Pt.slots] at X2 l2 y2 z2 st2 hQ2
  subst l2 y2 z2
  obtain ⟨rfl, N2q, e2⟩ := hQ2
  have N2 := Fr.app N0 N2q
  obtain ⟨fs, hr, hrun, hended, hW, hsame⟩ := X2.leave (v := some (.int 1)) (fun h => by rw [Bd.returns] at h; cases h)
  refine ⟨_, _, pre0 _ ?_, hrun, hended, _, _, rfl, ?_, ⟨_, rfl⟩, hW, hsame.mono (by decide) (by decide)⟩
  · show Steps p.tables e below (s₁.setTop (mkF m 0 #[.val (.int p1), .val (.int p2), .val (.int p3), .unset, .unset, .unset, .unset, .unset, .unset] [])) _
    refine XS.iloadN X0.here hx rfl (hb hby at_0) rfl ?_
    show Steps p.tables e below (s₁.setTop (mkF m 1 #[.val (.int p1), .val (.int p2), .val (.int p3), .unset, .unset, .unset, .unset, .unset, .unset] [(.int p1)])) _
    refine X0.ldcInt hx hown (mvT hZ (hw _ (List.mem_of_getElem? (i := 0) rfl))) (g := (mkF m 1 #[.val (.int p1), .val (.int p2), .val (.int p3), .unset, .unset, .unset, .unset, .unset, .unset] [(.int p1)])) rfl (hb hby at_1) _ ?_
    show Steps p.tables e below (s₁.setTop (mkF m 3 #[.val (.int p1), .val (.int p2), .val (.int p3), .unset, .unset, .unset, .unset, .unset, .unset] [(.int 2147483647), (.int p1)])) _
    refine XS.iand X0.here hx rfl (hb hby at_3) rfl ?_
    show Steps p.tables e below (s₁.setTop (mkF m 4 #[.val (.int p1), .val (.int p2), .val (.int p3), .unset, .unset, .unset, .unset, .unset, .unset] [(.int (p1 &&& (2147483647 : Int32)))])) _
    refine XS.bipush X0.here hx rfl (hb hby at_4) ?_
    show Steps p.tables e below (s₁.setTop (mkF m 6 #[.val (.int p1), .val (.int p2), .val (.int p3), .unset, .unset, .unset, .unset, .unset, .unset] [(.int 6), (.int (p1 &&& (2147483647 : Int32)))])) _
    refine iremM X0 hx rfl (hb hby at_6) rfl (by decide) ?_
    show Steps p.tables e below (s₁.setTop (mkF m 7 #[.val (.int p1), .val (.int p2), .val (.int p3), .unset, .unset, .unset, .unset, .unset, .unset] [(.int ((p1 &&& (2147483647 : Int32)) % (6 : Int32)))])) _
    rw [hk]
    show Steps p.tables e below (s₁.setTop (mkF m 7 #[.val (.int p1), .val (.int p2), .val (.int p3), .unset, .unset, .unset, .unset, .unset, .unset] [(.int 2)])) _
    refine XS.istoreN X0.here hx rfl (hb hby at_7) rfl (l' := #[.val (.int p1), .val (.int p2), .val (.int p3), .val (.int 2), .unset, .unset, .unset, .unset, .unset]) rfl ?_
    show Steps p.tables e below (s₁.setTop (mkF m 8 #[.val (.int p1), .val (.int p2), .val (.int p3), .val (.int 2), .unset, .unset, .unset, .unset, .unset] [])) _
    refine XS.iloadN X0.here hx rfl (hb hby at_8) rfl ?_
    show Steps p.tables e below (s₁.setTop (mkF m 9 #[.val (.int p1), .val (.int p2), .val (.int p3), .val (.int 2), .unset, .unset, .unset, .unset, .unset] [(.int p2)])) _
    refine XS.iconst X0.here hx rfl (hb hby at_9) ?_
    show Steps p.tables e below (s₁.setTop (mkF m 10 #[.val (.int p1), .val (.int p2), .val (.int p3), .val (.int 2), .unset, .unset, .unset, .unset, .unset] [(.int 3), (.int p2)])) _
    refine XS.iand X0.here hx rfl (hb hby at_10) rfl ?_
    show Steps p.tables e below (s₁.setTop (mkF m 11 #[.val (.int p1), .val (.int p2), .val (.int p3), .val (.int 2), .unset, .unset, .unset, .unset, .unset] [(.int (p2 &&& (3 : Int32)))])) _
    rw [hvb]
    show Steps p.tables e below (s₁.setTop (mkF m 11 #[.val (.int p1), .val (.int p2), .val (.int p3), .val (.int 2), .unset, .unset, .unset, .unset, .unset] [(.int vb)])) _
    refine XS.istore X0.here hx rfl (hb hby at_11) rfl (l' := #[.val (.int p1), .val (.int p2), .val (.int p3), .val (.int 2), .val (.int vb), .unset, .unset, .unset, .unset]) rfl ?_
    show Steps p.tables e below (s₁.setTop (mkF m 13 #[.val (.int p1), .val (.int p2), .val (.int p3), .val (.int 2), .val (.int vb), .unset, .unset, .unset, .unset] [])) _
    refine XS.iloadN X0.here hx rfl (hb hby at_13) rfl ?_
    show Steps p.tables e below (s₁.setTop (mkF m 14 #[.val (.int p1), .val (.int p2), .val (.int p3), .val (.int 2), .val (.int vb), .unset, .unset, .unset, .unset] [(.int p3)])) _
    refine XS.iconst X0.here hx rfl (hb hby at_14) ?_
    show Steps p.tables e below (s₁.setTop (mkF m 15 #[.val (.int p1), .val (.int p2), .val (.int p3), .val (.int 2), .val (.int vb), .unset, .unset, .unset, .unset] [(.int 3), (.int p3)])) _
    refine XS.iand X0.here hx rfl (hb hby at_15) rfl ?_
    show Steps p.tables e below (s₁.setTop (mkF m 16 #[.val (.int p1), .val (.int p2), .val (.int p3), .val (.int 2), .val (.int vb), .unset, .unset, .unset, .unset] [(.int (p3 &&& (3 : Int32)))])) _
    rw [hva]
    show Steps p.tables e below (s₁.setTop (mkF m 16 #[.val (.int p1), .val (.int p2), .val (.int p3), .val (.int 2), .val (.int vb), .unset, .unset, .unset, .unset] [(.int va)])) _
    refine XS.istore X0.here hx rfl (hb hby at_16) rfl (l' := #[.val (.int p1), .val (.int p2), .val (.int p3), .val (.int 2), .val (.int vb), .val (.int va), .unset, .unset, .unset]) rfl ?_
    show Steps p.tables e below (s₁.setTop (mkF m 18 #[.val (.int p1), .val (.int p2), .val (.int p3), .val (.int 2), .val (.int vb), .val (.int va), .unset, .unset, .unset] [])) _
    refine XS.iloadN X0.here hx rfl (hb hby at_18) rfl ?_
    show Steps p.tables e below (s₁.setTop (mkF m 19 #[.val (.int p1), .val (.int p2), .val (.int p3), .val (.int 2), .val (.int vb), .val (.int va), .unset, .unset, .unset] [(.int 2)])) _
    refine XS.ifYes X0.here hx rfl (pc0 := 19) (pc' := 34) rfl (hb hby at_19) rfl ((if0 _ _).trans (feq (by decide : ¬ ((2 : Int32) = (0 : Int32)))).2) (by decide) (by decide) ?_
    show Steps p.tables e below (s₁.setTop (mkF m 34 #[.val (.int p1), .val (.int p2), .val (.int p3), .val (.int 2), .val (.int vb), .val (.int va), .unset, .unset, .unset] [])) _
    refine XS.iloadN X0.here hx rfl (hb hby at_34) rfl ?_
    show Steps p.tables e below (s₁.setTop (mkF m 35 #[.val (.int p1), .val (.int p2), .val (.int p3), .val (.int 2), .val (.int vb), .val (.int va), .unset, .unset, .unset] [(.int 2)])) _
    refine XS.iconst X0.here hx rfl (hb hby at_35) ?_
    show Steps p.tables e below (s₁.setTop (mkF m 36 #[.val (.int p1), .val (.int p2), .val (.int p3), .val (.int 2), .val (.int vb), .val (.int va), .unset, .unset, .unset] [(.int 1), (.int 2)])) _
    refine XS.icmpYes X0.here hx rfl (pc0 := 36) (pc' := 52) rfl (hb hby at_36) rfl (feq (by decide : ¬ ((2 : Int32) = (1 : Int32)))).2 (by decide) (by decide) ?_
    show Steps p.tables e below (s₁.setTop (mkF m 52 #[.val (.int p1), .val (.int p2), .val (.int p3), .val (.int 2), .val (.int vb), .val (.int va), .unset, .unset, .unset] [])) _
    refine XS.iloadN X0.here hx rfl (hb hby at_52) rfl ?_
    show Steps p.tables e below (s₁.setTop (mkF m 53 #[.val (.int p1), .val (.int p2), .val (.int p3), .val (.int 2), .val (.int vb), .val (.int va), .unset, .unset, .unset] [(.int 2)])) _
    refine XS.iconst X0.here hx rfl (hb hby at_53) ?_
    show Steps p.tables e below (s₁.setTop (mkF m 54 #[.val (.int p1), .val (.int p2), .val (.int p3), .val (.int 2), .val (.int vb), .val (.int va), .unset, .unset, .unset] [(.int 2), (.int 2)])) _
    refine XS.icmpNo X0.here hx rfl (hb hby at_54) rfl (teq (by decide : (2 : Int32) = (2 : Int32))).2 ?_
    show Steps p.tables e below (s₁.setTop (mkF m 57 #[.val (.int p1), .val (.int p2), .val (.int p3), .val (.int 2), .val (.int vb), .val (.int va), .unset, .unset, .unset] [])) _
    refine st1 _ ?_
    show Steps p.tables e below (T1.setTop (mkF m 60 #[.val (.int p1), .val (.int p2), .val (.int p3), .val (.int 2), .val (.int vb), .val (.int va), .unset, .unset, .unset] [(.ref w_LINE_START)])) _
    refine XS.astore X1.here hx rfl (hb hby at_60) rfl rfl (l' := #[.val (.int p1), .val (.int p2), .val (.int p3), .val (.int 2), .val (.int vb), .val (.int va), .val (.ref w_LINE_START), .unset, .unset]) rfl ?_
    show Steps p.tables e below (T1.setTop (mkF m 62 #[.val (.int p1), .val (.int p2), .val (.int p3), .val (.int 2), .val (.int vb), .val (.int va), .val (.ref w_LINE_START), .unset, .unset] [])) _
    refine XS.sipush X1.here hx rfl (hb hby at_62) ?_
    show Steps p.tables e below (T1.setTop (mkF m 65 #[.val (.int p1), .val (.int p2), .val (.int p3), .val (.int 2), .val (.int vb), .val (.int va), .val (.ref w_LINE_START), .unset, .unset] [(.int 255)])) _
    refine XS.istore X1.here hx rfl (hb hby at_65) rfl (l' := #[.val (.int p1), .val (.int p2), .val (.int p3), .val (.int 2), .val (.int vb), .val (.int va), .val (.ref w_LINE_START), .val (.int 255), .unset]) rfl ?_
    show Steps p.tables e below (T1.setTop (mkF m 67 #[.val (.int p1), .val (.int p2), .val (.int p3), .val (.int 2), .val (.int vb), .val (.int va), .val (.ref w_LINE_START), .val (.int 255), .unset] [])) _
    refine XS.goto X1.here hx rfl (pc0 := 67) (pc' := 115) rfl (hb hby at_67) (by decide) (by decide) ?_
    show Steps p.tables e below (T1.setTop (mkF m 115 #[.val (.int p1), .val (.int p2), .val (.int p3), .val (.int 2), .val (.int vb), .val (.int va), .val (.ref w_LINE_START), .val (.int 255), .unset] [])) _
    refine XS.iload X1.here hx rfl (hb hby at_115) rfl ?_
    show Steps p.tables e below (T1.setTop (mkF m 117 #[.val (.int p1), .val (.int p2), .val (.int p3), .val (.int 2), .val (.int vb), .val (.int va), .val (.ref w_LINE_START), .val (.int 255), .unset] [(.int 255)])) _
    refine XS.iload X1.here hx rfl (hb hby at_117) rfl ?_
    show Steps p.tables e below (T1.setTop (mkF m 119 #[.val (.int p1), .val (.int p2), .val (.int p3), .val (.int 2), .val (.int vb), .val (.int va), .val (.ref w_LINE_START), .val (.int 255), .unset] [(.int vb), (.int 255)])) _
    refine XS.iconst X1.here hx rfl (hb hby at_119) ?_
    show Steps p.tables e below (T1.setTop (mkF m 120 #[.val (.int p1), .val (.int p2), .val (.int p3), .val (.int 2), .val (.int vb), .val (.int va), .val (.ref w_LINE_START), .val (.int 255), .unset] [(.int 4), (.int vb), (.int 255)])) _
    refine XS.imul X1.here hx rfl (hb hby at_120) rfl ?_
    show Steps p.tables e below (T1.setTop (mkF m 121 #[.val (.int p1), .val (.int p2), .val (.int p3), .val (.int 2), .val (.int vb), .val (.int va), .val (.ref w_LINE_START), .val (.int 255), .unset] [(.int (vb * (4 : Int32))), (.int 255)])) _
    refine XS.iload X1.here hx rfl (hb hby at_121) rfl ?_
    show Steps p.tables e below (T1.setTop (mkF m 123 #[.val (.int p1), .val (.int p2), .val (.int p3), .val (.int 2), .val (.int vb), .val (.int va), .val (.ref w_LINE_START), .val (.int 255), .unset] [(.int va), (.int (vb * (4 : Int32))), (.int 255)])) _
    refine XS.iadd X1.here hx rfl (hb hby at_123) rfl ?_
    show Steps p.tables e below (T1.setTop (mkF m 124 #[.val (.int p1), .val (.int p2), .val (.int p3), .val (.int 2), .val (.int vb), .val (.int va), .val (.ref w_LINE_START), .val (.int 255), .unset] [(.int ((vb * (4 : Int32)) + va)), (.int 255)])) _
    refine XS.iushr X1.here hx rfl (hb hby at_124) rfl ?_
    show Steps p.tables e below (T1.setTop (mkF m 125 #[.val (.int p1), .val (.int p2), .val (.int p3), .val (.int 2), .val (.int vb), .val (.int va), .val (.ref w_LINE_START), .val (.int 255), .unset] [(.int (((255 : Int32).toUInt32 >>> (((vb * (4 : Int32)) + va) &&& 31).toUInt32).toInt32))])) _
    refine XS.iconst X1.here hx rfl (hb hby at_125) ?_
    show Steps p.tables e below (T1.setTop (mkF m 126 #[.val (.int p1), .val (.int p2), .val (.int p3), .val (.int 2), .val (.int vb), .val (.int va), .val (.ref w_LINE_START), .val (.int 255), .unset] [(.int 1), (.int (((255 : Int32).toUInt32 >>> (((vb * (4 : Int32)) + va) &&& 31).toUInt32).toInt32))])) _
    refine XS.iand X1.here hx rfl (hb hby at_126) rfl ?_
    show Steps p.tables e below (T1.setTop (mkF m 127 #[.val (.int p1), .val (.int p2), .val (.int p3), .val (.int 2), .val (.int vb), .val (.int va), .val (.ref w_LINE_START), .val (.int 255), .unset] [(.int ((((255 : Int32).toUInt32 >>> (((vb * (4 : Int32)) + va) &&& 31).toUInt32).toInt32) &&& (1 : Int32)))])) _
    rw [he]
    show Steps p.tables e below (T1.setTop (mkF m 127 #[.val (.int p1), .val (.int p2), .val (.int p3), .val (.int 2), .val (.int vb), .val (.int va), .val (.ref w_LINE_START), .val (.int 255), .unset] [(.int 0)])) _
    refine XS.ifYes X1.here hx rfl (pc0 := 127) (pc' := 134) rfl (hb hby at_127) rfl ((if0 _ _).trans (teq (by decide : (0 : Int32) = (0 : Int32))).1) (by decide) (by decide) ?_
    show Steps p.tables e below (T1.setTop (mkF m 134 #[.val (.int p1), .val (.int p2), .val (.int p3), .val (.int 2), .val (.int vb), .val (.int va), .val (.ref w_LINE_START), .val (.int 255), .unset] [])) _
    refine XS.iconst X1.here hx rfl (hb hby at_134) ?_
    show Steps p.tables e below (T1.setTop (mkF m 135 #[.val (.int p1), .val (.int p2), .val (.int p3), .val (.int 2), .val (.int vb), .val (.int va), .val (.ref w_LINE_START), .val (.int 255), .unset] [(.int 0)])) _
    refine XS.istore X1.here hx rfl (hb hby at_135) rfl (l' := #[.val (.int p1), .val (.int p2), .val (.int p3), .val (.int 2), .val (.int vb), .val (.int va), .val (.ref w_LINE_START), .val (.int 255), .val (.int 0)]) rfl ?_
    show Steps p.tables e below (T1.setTop (mkF m 137 #[.val (.int p1), .val (.int p2), .val (.int p3), .val (.int 2), .val (.int vb), .val (.int va), .val (.ref w_LINE_START), .val (.int 255), .val (.int 0)] [])) _
    refine XS.aload X1.here hx rfl (hb hby at_137) rfl rfl ?_
    show Steps p.tables e below (T1.setTop (mkF m 139 #[.val (.int p1), .val (.int p2), .val (.int p3), .val (.int 2), .val (.int vb), .val (.int va), .val (.ref w_LINE_START), .val (.int 255), .val (.int 0)] [(.ref w_LINE_START)])) _
    refine XS.iload X1.here hx rfl (hb hby at_139) rfl ?_
    show Steps p.tables e below (T1.setTop (mkF m 141 #[.val (.int p1), .val (.int p2), .val (.int p3), .val (.int 2), .val (.int vb), .val (.int va), .val (.ref w_LINE_START), .val (.int 255), .val (.int 0)] [(.int vb), (.ref w_LINE_START)])) _
    refine XS.iload X1.here hx rfl (hb hby at_141) rfl ?_
    show Steps p.tables e below (T1.setTop (mkF m 143 #[.val (.int p1), .val (.int p2), .val (.int p3), .val (.int 2), .val (.int vb), .val (.int va), .val (.ref w_LINE_START), .val (.int 255), .val (.int 0)] [(.int va), (.int vb), (.ref w_LINE_START)])) _
    refine st2.trans ?_
    show Steps p.tables e below (T2.setTop (mkF m 146 #[.val (.int p1), .val (.int p2), .val (.int p3), .val (.int 2), .val (.int vb), .val (.int va), .val (.ref w_LINE_START), .val (.int 255), .val (.int 0)] [(.int 0)])) _
    refine XS.iload X2.here hx rfl (hb hby at_146) rfl ?_
    show Steps p.tables e below (T2.setTop (mkF m 148 #[.val (.int p1), .val (.int p2), .val (.int p3), .val (.int 2), .val (.int vb), .val (.int va), .val (.ref w_LINE_START), .val (.int 255), .val (.int 0)] [(.int 0), (.int 0)])) _
    refine XS.icmpNo X2.here hx rfl (hb hby at_148) rfl (teq (by decide : (0 : Int32) = (0 : Int32))).2 ?_
    show Steps p.tables e below (T2.setTop (mkF m 151 #[.val (.int p1), .val (.int p2), .val (.int p3), .val (.int 2), .val (.int vb), .val (.int va), .val (.ref w_LINE_START), .val (.int 255), .val (.int 0)] [])) _
    refine XS.iconst X2.here hx rfl (hb hby at_151) ?_
    show Steps p.tables e below (T2.setTop (mkF m 152 #[.val (.int p1), .val (.int p2), .val (.int p3), .val (.int 2), .val (.int vb), .val (.int va), .val (.ref w_LINE_START), .val (.int 255), .val (.int 0)] [(.int 1)])) _
    refine XS.goto X2.here hx rfl (pc0 := 152) (pc' := 156) rfl (hb hby at_152) (by decide) (by decide) ?_
    show Steps p.tables e below (T2.setTop (mkF m 156 #[.val (.int p1), .val (.int p2), .val (.int p3), .val (.int 2), .val (.int vb), .val (.int va), .val (.ref w_LINE_START), .val (.int 255), .val (.int 0)] [(.int 1)])) _
    exact retN X2 hx (t := .boolean) Bd.returns (by simp) (hb hby at_156) hr
  · show Q0_k2ft Z p1 p2 p3 vb va w_LINE_START h0 n0 _ T2.heap _
    rw [e2]
    exact ⟨rfl, N2, rfl⟩
def Q2_w_LINE_END (Z : State) (w_LINE_END : Addr) (h0 : Heap) (n0 : Nat) (v : Option Value) (h : Heap) (L : List Loc) : Prop := v = some (.int 3) ∧ Fr n0 L ∧ h = h0
set_option maxRecDepth 65536 in
set_option maxHeartbeats 40000000 in
theorem rm2_w_LINE_END (l : Launch) (Z : State) (a0 : Array Value) (hw : ∀ d ∈ tables_1, d.before a0 Z = true) (ws : List Jvm.Cond) (w_LINE_END : Addr) (h0 : Heap) (n0 : Nat) (Z0 : n0 ≤ h0.size) (F_ordinal_w_LINE_END : Fld Z h0 w_LINE_END "java/lang/Enum" "ordinal" "I" (.int 3)) :
    MetFree l (⟨"java/lang/Enum", "ordinal", "()I"⟩ : MethodName) (head1 (Jvm.Cond.code (⟨"java/lang/Enum", "ordinal", "()I"⟩ : MethodName) jdk_37_method_2_code 1 (some .int) :: ws) ({ frames := 0, cells := 0, slots := 0, locals := 0 } : Room)) (fun a U => a = #[(.ref w_LINE_END)] ∧ Z.Warmed39 U.vm ∧ U.heap = h0) (fun _ _ _ _ _ => True) (fun _ U o U' => ∃ v L, o = .returned v ∧ Q2_w_LINE_END Z w_LINE_END h0 n0 v U'.heap L ∧ FrameEnd U o U' L ({ frames := 0, cells := 0, slots := 0, locals := 0 } : Room).cells ({ frames := 0, cells := 0, slots := 0, locals := 0 } : Room).slots) := by
  refine MetFree.of_bodySF (plainFor_of_name pn_2) hisR ?_
  intro p e s m args below meth c s₁ Bd hml0 hP hK
  obtain ⟨rfl, hZ, hh⟩ := hP
  have hx := Bd.exec
  have hby := Bd.bytes
  have hml : c.maxLocals = 1 := hml0
  have hown : s.vm.findClass "java/lang/Enum" = some m.cls := findClass_of_methodNamed Bd.named
  have hnm := (name_of_methodNamed Bd.named Bd.method).1
  have X0 : Stand p l e ({ frames := 0, cells := 0, slots := 0, locals := 0 } : Room) s m #[(.ref w_LINE_END)] below meth c s₁ [] 0 0 := Stand.of_body Bd
  have e0 : s₁.heap = h0 := by rw [← hh, Bd.state]; rfl
  have N0 := Fr.nil n0
  have pre0 : ∀ t, Steps p.tables e below (s₁.setTop (mkF m 0 #[.val (.ref w_LINE_END)] [])) t → Steps p.tables e below (s₁.setTop (entryFrame m #[(.ref w_LINE_END)] 1)) t := fun t k => castTop (by first | (simp [entryFrame, mkF, argsToLocals, Value.category]; done) | rfl) k
  obtain ⟨T1, X1, e1, st1⟩ := getF X0 hx hZ hown (host := "") (Or.inl (hw _ (List.mem_of_getElem? (i := 16) rfl))) Via.refl e0 F_ordinal_w_LINE_END (g := (mkF m 1 #[.val (.ref w_LINE_END)] [(.ref w_LINE_END)])) rfl rfl (hb hby d2_1)
  obtain ⟨fs, hr, hrun, hended, hW, hsame⟩ := X1.leave (v := some (.int 3)) (fun h => by rw [Bd.returns] at h; cases h)
  refine ⟨_, _, pre0 _ ?_, hrun, hended, _, _, rfl, ?_, ⟨_, rfl⟩, hW, hsame.mono (by decide) (by decide)⟩
  · show Steps p.tables e below (s₁.setTop (mkF m 0 #[.val (.ref w_LINE_END)] [])) _
    refine XS.aloadN X0.here hx rfl (hb hby d2_0) rfl rfl ?_
    show Steps p.tables e below (s₁.setTop (mkF m 1 #[.val (.ref w_LINE_END)] [(.ref w_LINE_END)])) _
    refine st1 _ ?_
    show Steps p.tables e below (T1.setTop (mkF m 4 #[.val (.ref w_LINE_END)] [(.int 3)])) _
    exact retI X1 hx Bd.returns (hb hby d2_4) hr
  · show Q2_w_LINE_END Z w_LINE_END h0 n0 _ T1.heap _
    rw [e1]
    exact ⟨rfl, N0, rfl⟩
def Q1_w_LINE_END_vb_va_rt (Z : State) (w_LINE_END : Addr) (vb : Int32) (va : Int32) (h0 : Heap) (n0 : Nat) (v : Option Value) (h : Heap) (L : List Loc) : Prop := v = some (.int 1) ∧ Fr n0 L ∧ h = h0
set_option maxRecDepth 65536 in
set_option maxHeartbeats 40000000 in
theorem rm1_w_LINE_END_vb_va_rt (l : Launch) (Z : State) (a0 : Array Value) (hw : ∀ d ∈ tables_1, d.before a0 Z = true) (ws : List Jvm.Cond) (w_LINE_END : Addr) (vb : Int32) (va : Int32) (h0 : Heap) (n0 : Nat) (Z0 : n0 ≤ h0.size) (F_ordinal_w_LINE_END : Fld Z h0 w_LINE_END "java/lang/Enum" "ordinal" "I" (.int 3)) (E_w_LINE_END : Exa Z h0 w_LINE_END "com/example/termwell/termwell/core/text/RegexNode$Anchor") (hc96 : va = (0 : Int32)) :
    MetFree l (⟨"com/example/termwell/termwell/core/text/RegexNode$Anchor", "holds", "(II)Z"⟩ : MethodName) (head1 (Jvm.Cond.code (⟨"com/example/termwell/termwell/core/text/RegexNode$Anchor", "holds", "(II)Z"⟩ : MethodName) prog_28_method_5_code 3 (some .boolean) :: ws) ({ frames := 1, cells := 0, slots := 0, locals := 12 } : Room)) (fun a U => a = #[(.ref w_LINE_END), (.int vb), (.int va)] ∧ Z.Warmed39 U.vm ∧ U.heap = h0) (fun _ _ _ _ _ => True) (fun _ U o U' => ∃ v L, o = .returned v ∧ Q1_w_LINE_END_vb_va_rt Z w_LINE_END vb va h0 n0 v U'.heap L ∧ FrameEnd U o U' L ({ frames := 1, cells := 0, slots := 0, locals := 12 } : Room).cells ({ frames := 1, cells := 0, slots := 0, locals := 12 } : Room).slots) := by
  refine MetFree.of_bodySF (plainFor_of_name pn_1) hisR ?_
  intro p e s m args below meth c s₁ Bd hml0 hP hK
  obtain ⟨rfl, hZ, hh⟩ := hP
  have hx := Bd.exec
  have hby := Bd.bytes
  have hml : c.maxLocals = 3 := hml0
  have hown : s.vm.findClass "com/example/termwell/termwell/core/text/RegexNode$Anchor" = some m.cls := findClass_of_methodNamed Bd.named
  have hnm := (name_of_methodNamed Bd.named Bd.method).1
  have X0 : Stand p l e ({ frames := 1, cells := 0, slots := 0, locals := 12 } : Room) s m #[(.ref w_LINE_END), (.int vb), (.int va)] below meth c s₁ [] 0 0 := Stand.of_body Bd
  have e0 : s₁.heap = h0 := by rw [← hh, Bd.state]; rfl
  have N0 := Fr.nil n0
  have pre0 : ∀ t, Steps p.tables e below (s₁.setTop (mkF m 0 #[.val (.ref w_LINE_END), .val (.int vb), .val (.int va)] [])) t → Steps p.tables e below (s₁.setTop (entryFrame m #[(.ref w_LINE_END), (.int vb), (.int va)] 3)) t := fun t k => castTop (by first | (simp [entryFrame, mkF, argsToLocals, Value.category]; done) | rfl) k
  obtain ⟨cq1, kq1, q1a, q1b, q1c⟩ := isOf hZ e0 E_w_LINE_END
  obtain ⟨_, _, ⟨T1, L1, k1, n1⟩, -, X1, ⟨Lc1, hQ1, l1, y1, z1⟩, st1⟩ := X0.virtualBackUp hx (x := (⟨"com/example/termwell/termwell/core/text/RegexNode$Anchor", "ordinal", "()I"⟩ : MethodName)) (y := (⟨"java/lang/Enum", "ordinal", "()I"⟩ : MethodName)) (owner := "java/lang/Enum") hown (mvT hZ (hw _ (List.mem_of_getElem? (i := 9) rfl))) (mvT hZ (hw _ (List.mem_of_getElem? (i := 10) rfl))) (mvT hZ (hw _ (List.mem_of_getElem? (i := 11) rfl))) (by decide) (mvT hZ (hw _ (List.mem_of_getElem? (i := 13) rfl))) (mvT hZ (hw _ (List.mem_of_getElem? (i := 12) rfl))) (backOf (W := 0) (rm2_w_LINE_END l Z a0 hw [] w_LINE_END h0 n0 Z0 F_ordinal_w_LINE_END) hZ (hw _ (List.mem_of_getElem? (i := 15) rfl)) (hw _ (List.mem_of_getElem? (i := 14) rfl)) (by decide) (by decide)) q1a q1c (g := (mkF m 1 #[.val (.ref w_LINE_END), .val (.int vb), .val (.int va)] [(.ref w_LINE_END)])) rfl (by rw [hml]; rfl) (Steps.refl _) (argsL := []) (rest := []) (lenOf pd___I rfl) rfl (by show 2 * 0 + _ ≤ _; exact Nat.le_of_eq rfl) (hb hby d1_1) (fun _ _ => ⟨rfl, e0, (by decide : 0 + 0 ≤ _), (by decide : 0 + 0 ≤ _)⟩)
  dsimp only [Pt.U, Pt.locs, Pt.cells, Pt.slots] at X1 l1 y1 z1 st1 hQ1
  subst l1 y1 z1
  obtain ⟨rfl, N1q, e1⟩ := hQ1
  have N1 := Fr.app N0 N1q
  obtain ⟨fs, hr, hrun, hended, hW, hsame⟩ := X1.leave (v := some (.int 1)) (fun h => by rw [Bd.returns] at h; cases h)
  refine ⟨_, _, pre0 _ ?_, hrun, hended, _, _, rfl, ?_, ⟨_, rfl⟩, hW, hsame.mono (by decide) (by decide)⟩
  · show Steps p.tables e below (s₁.setTop (mkF m 0 #[.val (.ref w_LINE_END), .val (.int vb), .val (.int va)] [])) _
    refine XS.aloadN X0.here hx rfl (hb hby d1_0) rfl rfl ?_
    show Steps p.tables e below (s₁.setTop (mkF m 1 #[.val (.ref w_LINE_END), .val (.int vb), .val (.int va)] [(.ref w_LINE_END)])) _
    refine st1.trans ?_
    show Steps p.tables e below (T1.setTop (mkF m 4 #[.val (.ref w_LINE_END), .val (.int vb), .val (.int va)] [(.int 3)])) _
    refine XS.tswIn X1.here hx rfl (pc0 := 4) (pc' := 95) rfl (hb hby d1_4) rfl (by decide) (o := 91) (by decide) (by decide) (by decide) ?_
    show Steps p.tables e below (T1.setTop (mkF m 95 #[.val (.ref w_LINE_END), .val (.int vb), .val (.int va)] [])) _
    refine XS.iloadN X1.here hx rfl (hb hby d1_95) rfl ?_
    show Steps p.tables e below (T1.setTop (mkF m 96 #[.val (.ref w_LINE_END), .val (.int vb), .val (.int va)] [(.int va)])) _
    refine XS.ifYes X1.here hx rfl (pc0 := 96) (pc' := 104) rfl (hb hby d1_96) rfl ((if0 _ _).trans (teq hc96).1) (by decide) (by decide) ?_
    show Steps p.tables e below (T1.setTop (mkF m 104 #[.val (.ref w_LINE_END), .val (.int vb), .val (.int va)] [])) _
    refine XS.iconst X1.here hx rfl (hb hby d1_104) ?_
    show Steps p.tables e below (T1.setTop (mkF m 105 #[.val (.ref w_LINE_END), .val (.int vb), .val (.int va)] [(.int 1)])) _
    refine XS.goto X1.here hx rfl (pc0 := 105) (pc' := 171) rfl (hb hby d1_105) (by decide) (by decide) ?_
    show Steps p.tables e below (T1.setTop (mkF m 171 #[.val (.ref w_LINE_END), .val (.int vb), .val (.int va)] [(.int 1)])) _
    exact retN X1 hx (t := .boolean) Bd.returns (by simp) (hb hby d1_171) hr
  · show Q1_w_LINE_END_vb_va_rt Z w_LINE_END vb va h0 n0 _ T1.heap _
    rw [e1]
    exact ⟨rfl, N1, rfl⟩
def Q0_k3t (Z : State) (p1 : Int32) (p2 : Int32) (p3 : Int32) (vb : Int32) (va : Int32) (w_LINE_END : Addr) (h0 : Heap) (n0 : Nat) (v : Option Value) (h : Heap) (L : List Loc) : Prop := v = some (.int 1) ∧ Fr n0 L ∧ h = h0
set_option maxRecDepth 65536 in
set_option maxHeartbeats 40000000 in
theorem rm0_k3t (l : Launch) (Z : State) (a0 : Array Value) (hw : ∀ d ∈ tables_1, d.before a0 Z = true) (ws : List Jvm.Cond) (p1 : Int32) (p2 : Int32) (p3 : Int32) (vb : Int32) (va : Int32) (w_LINE_END : Addr) (h0 : Heap) (n0 : Nat) (Z0 : n0 ≤ h0.size) (hk : ((p1 &&& (2147483647 : Int32)) % (6 : Int32)) = (3 : Int32)) (hvb : (p2 &&& (3 : Int32)) = vb) (hva : (p3 &&& (3 : Int32)) = va) (S_LINE_END : Sta Z h0 "com/example/termwell/termwell/core/text/RegexNode$Anchor" "LINE_END" "Lcom/example/termwell/termwell/core/text/RegexNode$Anchor;" (.ref w_LINE_END)) (he : ((((13107 : Int32).toUInt32 >>> (((vb * (4 : Int32)) + va) &&& 31).toUInt32).toInt32) &&& (1 : Int32)) = (1 : Int32)) (F_ordinal_w_LINE_END : Fld Z h0 w_LINE_END "java/lang/Enum" "ordinal" "I" (.int 3)) (E_w_LINE_END : Exa Z h0 w_LINE_END "com/example/termwell/termwell/core/text/RegexNode$Anchor") (hc96 : va = (0 : Int32)) :
    MetFree l x (head1 (Jvm.Cond.code x code maxLocals ret :: ws) room_1) (fun a U => a = #[(.int p1), (.int p2), (.int p3)] ∧ Z.Warmed39 U.vm ∧ U.heap = h0) (fun _ _ _ _ _ => True) (fun _ U o U' => ∃ v L, o = .returned v ∧ Q0_k3t Z p1 p2 p3 vb va w_LINE_END h0 n0 v U'.heap L ∧ FrameEnd U o U' L room_1.cells room_1.slots) := by
  refine MetFree.of_bodySF (plainFor_of_name pn_0) hisR ?_
  intro p e s m args below meth c s₁ Bd hml0 hP hK
  obtain ⟨rfl, hZ, hh⟩ := hP
  have hx := Bd.exec
  have hby := Bd.bytes
  have hml : c.maxLocals = 9 := hml0
  have hown : s.vm.findClass "com/example/termwell/termwell/core/text/AnchorHoldsPinLaw" = some m.cls := findClass_of_methodNamed Bd.named
  have hnm := (name_of_methodNamed Bd.named Bd.method).1
  have X0 : Stand p l e room_1 s m #[(.int p1), (.int p2), (.int p3)] below meth c s₁ [] 0 0 := Stand.of_body Bd
  have e0 : s₁.heap = h0 := by rw [← hh, Bd.state]; rfl
  have N0 := Fr.nil n0
  have pre0 : ∀ t, Steps p.tables e below (s₁.setTop (mkF m 0 #[.val (.int p1), .val (.int p2), .val (.int p3), .unset, .unset, .unset, .unset, .unset, .unset] [])) t → Steps p.tables e below (s₁.setTop (entryFrame m #[(.int p1), (.int p2), (.int p3)] maxLocals)) t := fun t k => castTop (by first | (simp [entryFrame, mkF, argsToLocals, Value.category, maxLocals]; done) | rfl) k
  obtain ⟨T1, X1, e1, st1⟩ := getS2 X0 hx hZ hown (host := "") (Or.inl (hw _ (List.mem_of_getElem? (i := 25) rfl))) Via.refl e0 S_LINE_END (g := (mkF m 75 #[.val (.int p1), .val (.int p2), .val (.int p3), .val (.int 3), .val (.int vb), .val (.int va), .unset, .unset, .unset] [])) rfl (hb hby at_75)
  obtain ⟨cq2, kq2, q2a, q2b, q2c⟩ := isOf hZ e1 E_w_LINE_END
  obtain ⟨_, _, ⟨T2, L2, k2, n2⟩, -, X2, ⟨Lc2, hQ2, l2, y2, z2⟩, st2⟩ := X1.virtualBack hx (y := (⟨"com/example/termwell/termwell/core/text/RegexNode$Anchor", "holds", "(II)Z"⟩ : MethodName)) (z := (⟨"com/example/termwell/termwell/core/text/RegexNode$Anchor", "holds", "(II)Z"⟩ : MethodName)) hown (mvT hZ (hw _ (List.mem_of_getElem? (i := 4) rfl))) (mvT hZ (hw _ (List.mem_of_getElem? (i := 5) rfl))) (notFace_of_selects (args := #[]) (mvT hZ (hw _ (List.mem_of_getElem? (i := 7) rfl)))) (mvT hZ (hw _ (List.mem_of_getElem? (i := 7) rfl))) (mvT hZ (hw _ (List.mem_of_getElem? (i := 6) rfl))) (by decide) (backOf (W := 0) (rm1_w_LINE_END_vb_va_rt l Z a0 hw [] w_LINE_END vb va h0 n0 Z0 F_ordinal_w_LINE_END E_w_LINE_END hc96) hZ (hw _ (List.mem_of_getElem? (i := 8) rfl)) (hw _ (List.mem_of_getElem? (i := 2) rfl)) (by decide) (by decide)) q2a q2c (g := (mkF m 143 #[.val (.int p1), .val (.int p2), .val (.int p3), .val (.int 3), .val (.int vb), .val (.int va), .val (.ref w_LINE_END), .val (.int 13107), .val (.int 1)] [(.int va), (.int vb), (.ref w_LINE_END)])) rfl (by rw [hml]; rfl) (Steps.refl _) (argsL := [(.int vb), (.int va)]) (rest := []) (lenOf pd__II_Z rfl) rfl (by show 2 * 0 + _ ≤ _; exact Nat.le_of_eq rfl) (hb hby at_143) (fun _ _ => ⟨rfl, e1, (by decide : 0 + 0 ≤ _), (by decide : 0 + 0 ≤ _)⟩)
  dsimp only [Pt.U, Pt.locs, Pt.cells, Pt.slots] at X2 l2 y2 z2 st2 hQ2
  subst l2 y2 z2
  obtain ⟨rfl, N2q, e2⟩ := hQ2
  have N2 := Fr.app N0 N2q
  obtain ⟨fs, hr, hrun, hended, hW, hsame⟩ := X2.leave (v := some (.int 1)) (fun h => by rw [Bd.returns] at h; cases h)
  refine ⟨_, _, pre0 _ ?_, hrun, hended, _, _, rfl, ?_, ⟨_, rfl⟩, hW, hsame.mono (by decide) (by decide)⟩
  · show Steps p.tables e below (s₁.setTop (mkF m 0 #[.val (.int p1), .val (.int p2), .val (.int p3), .unset, .unset, .unset, .unset, .unset, .unset] [])) _
    refine XS.iloadN X0.here hx rfl (hb hby at_0) rfl ?_
    show Steps p.tables e below (s₁.setTop (mkF m 1 #[.val (.int p1), .val (.int p2), .val (.int p3), .unset, .unset, .unset, .unset, .unset, .unset] [(.int p1)])) _
    refine X0.ldcInt hx hown (mvT hZ (hw _ (List.mem_of_getElem? (i := 0) rfl))) (g := (mkF m 1 #[.val (.int p1), .val (.int p2), .val (.int p3), .unset, .unset, .unset, .unset, .unset, .unset] [(.int p1)])) rfl (hb hby at_1) _ ?_
    show Steps p.tables e below (s₁.setTop (mkF m 3 #[.val (.int p1), .val (.int p2), .val (.int p3), .unset, .unset, .unset, .unset, .unset, .unset] [(.int 2147483647), (.int p1)])) _
    refine XS.iand X0.here hx rfl (hb hby at_3) rfl ?_
    show Steps p.tables e below (s₁.setTop (mkF m 4 #[.val (.int p1), .val (.int p2), .val (.int p3), .unset, .unset, .unset, .unset, .unset, .unset] [(.int (p1 &&& (2147483647 : Int32)))])) _
    refine XS.bipush X0.here hx rfl (hb hby at_4) ?_
    show Steps p.tables e below (s₁.setTop (mkF m 6 #[.val (.int p1), .val (.int p2), .val (.int p3), .unset, .unset, .unset, .unset, .unset, .unset] [(.int 6), (.int (p1 &&& (2147483647 : Int32)))])) _
    refine iremM X0 hx rfl (hb hby at_6) rfl (by decide) ?_
    show Steps p.tables e below (s₁.setTop (mkF m 7 #[.val (.int p1), .val (.int p2), .val (.int p3), .unset, .unset, .unset, .unset, .unset, .unset] [(.int ((p1 &&& (2147483647 : Int32)) % (6 : Int32)))])) _
    rw [hk]
    show Steps p.tables e below (s₁.setTop (mkF m 7 #[.val (.int p1), .val (.int p2), .val (.int p3), .unset, .unset, .unset, .unset, .unset, .unset] [(.int 3)])) _
    refine XS.istoreN X0.here hx rfl (hb hby at_7) rfl (l' := #[.val (.int p1), .val (.int p2), .val (.int p3), .val (.int 3), .unset, .unset, .unset, .unset, .unset]) rfl ?_
    show Steps p.tables e below (s₁.setTop (mkF m 8 #[.val (.int p1), .val (.int p2), .val (.int p3), .val (.int 3), .unset, .unset, .unset, .unset, .unset] [])) _
    refine XS.iloadN X0.here hx rfl (hb hby at_8) rfl ?_
    show Steps p.tables e below (s₁.setTop (mkF m 9 #[.val (.int p1), .val (.int p2), .val (.int p3), .val (.int 3), .unset, .unset, .unset, .unset, .unset] [(.int p2)])) _
    refine XS.iconst X0.here hx rfl (hb hby at_9) ?_
    show Steps p.tables e below (s₁.setTop (mkF m 10 #[.val (.int p1), .val (.int p2), .val (.int p3), .val (.int 3), .unset, .unset, .unset, .unset, .unset] [(.int 3), (.int p2)])) _
    refine XS.iand X0.here hx rfl (hb hby at_10) rfl ?_
    show Steps p.tables e below (s₁.setTop (mkF m 11 #[.val (.int p1), .val (.int p2), .val (.int p3), .val (.int 3), .unset, .unset, .unset, .unset, .unset] [(.int (p2 &&& (3 : Int32)))])) _
    rw [hvb]
    show Steps p.tables e below (s₁.setTop (mkF m 11 #[.val (.int p1), .val (.int p2), .val (.int p3), .val (.int 3), .unset, .unset, .unset, .unset, .unset] [(.int vb)])) _
    refine XS.istore X0.here hx rfl (hb hby at_11) rfl (l' := #[.val (.int p1), .val (.int p2), .val (.int p3), .val (.int 3), .val (.int vb), .unset, .unset, .unset, .unset]) rfl ?_
    show Steps p.tables e below (s₁.setTop (mkF m 13 #[.val (.int p1), .val (.int p2), .val (.int p3), .val (.int 3), .val (.int vb), .unset, .unset, .unset, .unset] [])) _
    refine XS.iloadN X0.here hx rfl (hb hby at_13) rfl ?_
    show Steps p.tables e below (s₁.setTop (mkF m 14 #[.val (.int p1), .val (.int p2), .val (.int p3), .val (.int 3), .val (.int vb), .unset, .unset, .unset, .unset] [(.int p3)])) _
    refine XS.iconst X0.here hx rfl (hb hby at_14) ?_
    show Steps p.tables e below (s₁.setTop (mkF m 15 #[.val (.int p1), .val (.int p2), .val (.int p3), .val (.int 3), .val (.int vb), .unset, .unset, .unset, .unset] [(.int 3), (.int p3)])) _
    refine XS.iand X0.here hx rfl (hb hby at_15) rfl ?_
    show Steps p.tables e below (s₁.setTop (mkF m 16 #[.val (.int p1), .val (.int p2), .val (.int p3), .val (.int 3), .val (.int vb), .unset, .unset, .unset, .unset] [(.int (p3 &&& (3 : Int32)))])) _
    rw [hva]
    show Steps p.tables e below (s₁.setTop (mkF m 16 #[.val (.int p1), .val (.int p2), .val (.int p3), .val (.int 3), .val (.int vb), .unset, .unset, .unset, .unset] [(.int va)])) _
    refine XS.istore X0.here hx rfl (hb hby at_16) rfl (l' := #[.val (.int p1), .val (.int p2), .val (.int p3), .val (.int 3), .val (.int vb), .val (.int va), .unset, .unset, .unset]) rfl ?_
    show Steps p.tables e below (s₁.setTop (mkF m 18 #[.val (.int p1), .val (.int p2), .val (.int p3), .val (.int 3), .val (.int vb), .val (.int va), .unset, .unset, .unset] [])) _
    refine XS.iloadN X0.here hx rfl (hb hby at_18) rfl ?_
    show Steps p.tables e below (s₁.setTop (mkF m 19 #[.val (.int p1), .val (.int p2), .val (.int p3), .val (.int 3), .val (.int vb), .val (.int va), .unset, .unset, .unset] [(.int 3)])) _
    refine XS.ifYes X0.here hx rfl (pc0 := 19) (pc' := 34) rfl (hb hby at_19) rfl ((if0 _ _).trans (feq (by decide : ¬ ((3 : Int32) = (0 : Int32)))).2) (by decide) (by decide) ?_
    show Steps p.tables e below (s₁.setTop (mkF m 34 #[.val (.int p1), .val (.int p2), .val (.int p3), .val (.int 3), .val (.int vb), .val (.int va), .unset, .unset, .unset] [])) _
    refine XS.iloadN X0.here hx rfl (hb hby at_34) rfl ?_
    show Steps p.tables e below (s₁.setTop (mkF m 35 #[.val (.int p1), .val (.int p2), .val (.int p3), .val (.int 3), .val (.int vb), .val (.int va), .unset, .unset, .unset] [(.int 3)])) _
    refine XS.iconst X0.here hx rfl (hb hby at_35) ?_
    show Steps p.tables e below (s₁.setTop (mkF m 36 #[.val (.int p1), .val (.int p2), .val (.int p3), .val (.int 3), .val (.int vb), .val (.int va), .unset, .unset, .unset] [(.int 1), (.int 3)])) _
    refine XS.icmpYes X0.here hx rfl (pc0 := 36) (pc' := 52) rfl (hb hby at_36) rfl (feq (by decide : ¬ ((3 : Int32) = (1 : Int32)))).2 (by decide) (by decide) ?_
    show Steps p.tables e below (s₁.setTop (mkF m 52 #[.val (.int p1), .val (.int p2), .val (.int p3), .val (.int 3), .val (.int vb), .val (.int va), .unset, .unset, .unset] [])) _
    refine XS.iloadN X0.here hx rfl (hb hby at_52) rfl ?_
    show Steps p.tables e below (s₁.setTop (mkF m 53 #[.val (.int p1), .val (.int p2), .val (.int p3), .val (.int 3), .val (.int vb), .val (.int va), .unset, .unset, .unset] [(.int 3)])) _
    refine XS.iconst X0.here hx rfl (hb hby at_53) ?_
    show Steps p.tables e below (s₁.setTop (mkF m 54 #[.val (.int p1), .val (.int p2), .val (.int p3), .val (.int 3), .val (.int vb), .val (.int va), .unset, .unset, .unset] [(.int 2), (.int 3)])) _
    refine XS.icmpYes X0.here hx rfl (pc0 := 54) (pc' := 70) rfl (hb hby at_54) rfl (feq (by decide : ¬ ((3 : Int32) = (2 : Int32)))).2 (by decide) (by decide) ?_
    show Steps p.tables e below (s₁.setTop (mkF m 70 #[.val (.int p1), .val (.int p2), .val (.int p3), .val (.int 3), .val (.int vb), .val (.int va), .unset, .unset, .unset] [])) _
    refine XS.iloadN X0.here hx rfl (hb hby at_70) rfl ?_
    show Steps p.tables e below (s₁.setTop (mkF m 71 #[.val (.int p1), .val (.int p2), .val (.int p3), .val (.int 3), .val (.int vb), .val (.int va), .unset, .unset, .unset] [(.int 3)])) _
    refine XS.iconst X0.here hx rfl (hb hby at_71) ?_
    show Steps p.tables e below (s₁.setTop (mkF m 72 #[.val (.int p1), .val (.int p2), .val (.int p3), .val (.int 3), .val (.int vb), .val (.int va), .unset, .unset, .unset] [(.int 3), (.int 3)])) _
    refine XS.icmpNo X0.here hx rfl (hb hby at_72) rfl (teq (by decide : (3 : Int32) = (3 : Int32))).2 ?_
    show Steps p.tables e below (s₁.setTop (mkF m 75 #[.val (.int p1), .val (.int p2), .val (.int p3), .val (.int 3), .val (.int vb), .val (.int va), .unset, .unset, .unset] [])) _
    refine st1 _ ?_
    show Steps p.tables e below (T1.setTop (mkF m 78 #[.val (.int p1), .val (.int p2), .val (.int p3), .val (.int 3), .val (.int vb), .val (.int va), .unset, .unset, .unset] [(.ref w_LINE_END)])) _
    refine XS.astore X1.here hx rfl (hb hby at_78) rfl rfl (l' := #[.val (.int p1), .val (.int p2), .val (.int p3), .val (.int 3), .val (.int vb), .val (.int va), .val (.ref w_LINE_END), .unset, .unset]) rfl ?_
    show Steps p.tables e below (T1.setTop (mkF m 80 #[.val (.int p1), .val (.int p2), .val (.int p3), .val (.int 3), .val (.int vb), .val (.int va), .val (.ref w_LINE_END), .unset, .unset] [])) _
    refine XS.sipush X1.here hx rfl (hb hby at_80) ?_
    show Steps p.tables e below (T1.setTop (mkF m 83 #[.val (.int p1), .val (.int p2), .val (.int p3), .val (.int 3), .val (.int vb), .val (.int va), .val (.ref w_LINE_END), .unset, .unset] [(.int 13107)])) _
    refine XS.istore X1.here hx rfl (hb hby at_83) rfl (l' := #[.val (.int p1), .val (.int p2), .val (.int p3), .val (.int 3), .val (.int vb), .val (.int va), .val (.ref w_LINE_END), .val (.int 13107), .unset]) rfl ?_
    show Steps p.tables e below (T1.setTop (mkF m 85 #[.val (.int p1), .val (.int p2), .val (.int p3), .val (.int 3), .val (.int vb), .val (.int va), .val (.ref w_LINE_END), .val (.int 13107), .unset] [])) _
    refine XS.goto X1.here hx rfl (pc0 := 85) (pc' := 115) rfl (hb hby at_85) (by decide) (by decide) ?_
    show Steps p.tables e below (T1.setTop (mkF m 115 #[.val (.int p1), .val (.int p2), .val (.int p3), .val (.int 3), .val (.int vb), .val (.int va), .val (.ref w_LINE_END), .val (.int 13107), .unset] [])) _
    refine XS.iload X1.here hx rfl (hb hby at_115) rfl ?_
    show Steps p.tables e below (T1.setTop (mkF m 117 #[.val (.int p1), .val (.int p2), .val (.int p3), .val (.int 3), .val (.int vb), .val (.int va), .val (.ref w_LINE_END), .val (.int 13107), .unset] [(.int 13107)])) _
    refine XS.iload X1.here hx rfl (hb hby at_117) rfl ?_
    show Steps p.tables e below (T1.setTop (mkF m 119 #[.val (.int p1), .val (.int p2), .val (.int p3), .val (.int 3), .val (.int vb), .val (.int va), .val (.ref w_LINE_END), .val (.int 13107), .unset] [(.int vb), (.int 13107)])) _
    refine XS.iconst X1.here hx rfl (hb hby at_119) ?_
    show Steps p.tables e below (T1.setTop (mkF m 120 #[.val (.int p1), .val (.int p2), .val (.int p3), .val (.int 3), .val (.int vb), .val (.int va), .val (.ref w_LINE_END), .val (.int 13107), .unset] [(.int 4), (.int vb), (.int 13107)])) _
    refine XS.imul X1.here hx rfl (hb hby at_120) rfl ?_
    show Steps p.tables e below (T1.setTop (mkF m 121 #[.val (.int p1), .val (.int p2), .val (.int p3), .val (.int 3), .val (.int vb), .val (.int va), .val (.ref w_LINE_END), .val (.int 13107), .unset] [(.int (vb * (4 : Int32))), (.int 13107)])) _
    refine XS.iload X1.here hx rfl (hb hby at_121) rfl ?_
    show Steps p.tables e below (T1.setTop (mkF m 123 #[.val (.int p1), .val (.int p2), .val (.int p3), .val (.int 3), .val (.int vb), .val (.int va), .val (.ref w_LINE_END), .val (.int 13107), .unset] [(.int va), (.int (vb * (4 : Int32))), (.int 13107)])) _
    refine XS.iadd X1.here hx rfl (hb hby at_123) rfl ?_
    show Steps p.tables e below (T1.setTop (mkF m 124 #[.val (.int p1), .val (.int p2), .val (.int p3), .val (.int 3), .val (.int vb), .val (.int va), .val (.ref w_LINE_END), .val (.int 13107), .unset] [(.int ((vb * (4 : Int32)) + va)), (.int 13107)])) _
    refine XS.iushr X1.here hx rfl (hb hby at_124) rfl ?_
    show Steps p.tables e below (T1.setTop (mkF m 125 #[.val (.int p1), .val (.int p2), .val (.int p3), .val (.int 3), .val (.int vb), .val (.int va), .val (.ref w_LINE_END), .val (.int 13107), .unset] [(.int (((13107 : Int32).toUInt32 >>> (((vb * (4 : Int32)) + va) &&& 31).toUInt32).toInt32))])) _
    refine XS.iconst X1.here hx rfl (hb hby at_125) ?_
    show Steps p.tables e below (T1.setTop (mkF m 126 #[.val (.int p1), .val (.int p2), .val (.int p3), .val (.int 3), .val (.int vb), .val (.int va), .val (.ref w_LINE_END), .val (.int 13107), .unset] [(.int 1), (.int (((13107 : Int32).toUInt32 >>> (((vb * (4 : Int32)) + va) &&& 31).toUInt32).toInt32))])) _
    refine XS.iand X1.here hx rfl (hb hby at_126) rfl ?_
    show Steps p.tables e below (T1.setTop (mkF m 127 #[.val (.int p1), .val (.int p2), .val (.int p3), .val (.int 3), .val (.int vb), .val (.int va), .val (.ref w_LINE_END), .val (.int 13107), .unset] [(.int ((((13107 : Int32).toUInt32 >>> (((vb * (4 : Int32)) + va) &&& 31).toUInt32).toInt32) &&& (1 : Int32)))])) _
    rw [he]
    show Steps p.tables e below (T1.setTop (mkF m 127 #[.val (.int p1), .val (.int p2), .val (.int p3), .val (.int 3), .val (.int vb), .val (.int va), .val (.ref w_LINE_END), .val (.int 13107), .unset] [(.int 1)])) _
    refine XS.ifNo X1.here hx rfl (hb hby at_127) rfl ((if0 _ _).trans (feq (by decide : ¬ ((1 : Int32) = (0 : Int32)))).1) ?_
    show Steps p.tables e below (T1.setTop (mkF m 130 #[.val (.int p1), .val (.int p2), .val (.int p3), .val (.int 3), .val (.int vb), .val (.int va), .val (.ref w_LINE_END), .val (.int 13107), .unset] [])) _
    refine XS.iconst X1.here hx rfl (hb hby at_130) ?_
    show Steps p.tables e below (T1.setTop (mkF m 131 #[.val (.int p1), .val (.int p2), .val (.int p3), .val (.int 3), .val (.int vb), .val (.int va), .val (.ref w_LINE_END), .val (.int 13107), .unset] [(.int 1)])) _
    refine XS.goto X1.here hx rfl (pc0 := 131) (pc' := 135) rfl (hb hby at_131) (by decide) (by decide) ?_
    show Steps p.tables e below (T1.setTop (mkF m 135 #[.val (.int p1), .val (.int p2), .val (.int p3), .val (.int 3), .val (.int vb), .val (.int va), .val (.ref w_LINE_END), .val (.int 13107), .unset] [(.int 1)])) _
    refine XS.istore X1.here hx rfl (hb hby at_135) rfl (l' := #[.val (.int p1), .val (.int p2), .val (.int p3), .val (.int 3), .val (.int vb), .val (.int va), .val (.ref w_LINE_END), .val (.int 13107), .val (.int 1)]) rfl ?_
    show Steps p.tables e below (T1.setTop (mkF m 137 #[.val (.int p1), .val (.int p2), .val (.int p3), .val (.int 3), .val (.int vb), .val (.int va), .val (.ref w_LINE_END), .val (.int 13107), .val (.int 1)] [])) _
    refine XS.aload X1.here hx rfl (hb hby at_137) rfl rfl ?_
    show Steps p.tables e below (T1.setTop (mkF m 139 #[.val (.int p1), .val (.int p2), .val (.int p3), .val (.int 3), .val (.int vb), .val (.int va), .val (.ref w_LINE_END), .val (.int 13107), .val (.int 1)] [(.ref w_LINE_END)])) _
    refine XS.iload X1.here hx rfl (hb hby at_139) rfl ?_
    show Steps p.tables e below (T1.setTop (mkF m 141 #[.val (.int p1), .val (.int p2), .val (.int p3), .val (.int 3), .val (.int vb), .val (.int va), .val (.ref w_LINE_END), .val (.int 13107), .val (.int 1)] [(.int vb), (.ref w_LINE_END)])) _
    refine XS.iload X1.here hx rfl (hb hby at_141) rfl ?_
    show Steps p.tables e below (T1.setTop (mkF m 143 #[.val (.int p1), .val (.int p2), .val (.int p3), .val (.int 3), .val (.int vb), .val (.int va), .val (.ref w_LINE_END), .val (.int 13107), .val (.int 1)] [(.int va), (.int vb), (.ref w_LINE_END)])) _
    refine st2.trans ?_
    show Steps p.tables e below (T2.setTop (mkF m 146 #[.val (.int p1), .val (.int p2), .val (.int p3), .val (.int 3), .val (.int vb), .val (.int va), .val (.ref w_LINE_END), .val (.int 13107), .val (.int 1)] [(.int 1)])) _
    refine XS.iload X2.here hx rfl (hb hby at_146) rfl ?_
    show Steps p.tables e below (T2.setTop (mkF m 148 #[.val (.int p1), .val (.int p2), .val (.int p3), .val (.int 3), .val (.int vb), .val (.int va), .val (.ref w_LINE_END), .val (.int 13107), .val (.int 1)] [(.int 1), (.int 1)])) _
    refine XS.icmpNo X2.here hx rfl (hb hby at_148) rfl (teq (by decide : (1 : Int32) = (1 : Int32))).2 ?_
    show Steps p.tables e below (T2.setTop (mkF m 151 #[.val (.int p1), .val (.int p2), .val (.int p3), .val (.int 3), .val (.int vb), .val (.int va), .val (.ref w_LINE_END), .val (.int 13107), .val (.int 1)] [])) _
    refine XS.iconst X2.here hx rfl (hb hby at_151) ?_
    show Steps p.tables e below (T2.setTop (mkF m 152 #[.val (.int p1), .val (.int p2), .val (.int p3), .val (.int 3), .val (.int vb), .val (.int va), .val (.ref w_LINE_END), .val (.int 13107), .val (.int 1)] [(.int 1)])) _
    refine XS.goto X2.here hx rfl (pc0 := 152) (pc' := 156) rfl (hb hby at_152) (by decide) (by decide) ?_
    show Steps p.tables e below (T2.setTop (mkF m 156 #[.val (.int p1), .val (.int p2), .val (.int p3), .val (.int 3), .val (.int vb), .val (.int va), .val (.ref w_LINE_END), .val (.int 13107), .val (.int 1)] [(.int 1)])) _
    exact retN X2 hx (t := .boolean) Bd.returns (by simp) (hb hby at_156) hr
  · show Q0_k3t Z p1 p2 p3 vb va w_LINE_END h0 n0 _ T2.heap _
    rw [e2]
    exact ⟨rfl, N2, rfl⟩
def Q1_w_LINE_END_vb_va_rff (Z : State) (w_LINE_END : Addr) (vb : Int32) (va : Int32) (h0 : Heap) (n0 : Nat) (v : Option Value) (h : Heap) (L : List Loc) : Prop := v = some (.int 1) ∧ Fr n0 L ∧ h = h0
set_option maxRecDepth 65536 in
set_option maxHeartbeats 40000000 in
theorem rm1_w_LINE_END_vb_va_rff (l : Launch) (Z : State) (a0 : Array Value) (hw : ∀ d ∈ tables_1, d.before a0 Z = true) (ws : List Jvm.Cond) (w_LINE_END : Addr) (vb : Int32) (va : Int32) (h0 : Heap) (n0 : Nat) (Z0 : n0 ≤ h0.size) (F_ordinal_w_LINE_END : Fld Z h0 w_LINE_END "java/lang/Enum" "ordinal" "I" (.int 3)) (E_w_LINE_END : Exa Z h0 w_LINE_END "com/example/termwell/termwell/core/text/RegexNode$Anchor") (hc96 : ¬ (va = (0 : Int32))) (hc101 : va = (1 : Int32)) :
    MetFree l (⟨"com/example/termwell/termwell/core/text/RegexNode$Anchor", "holds", "(II)Z"⟩ : MethodName) (head1 (Jvm.Cond.code (⟨"com/example/termwell/termwell/core/text/RegexNode$Anchor", "holds", "(II)Z"⟩ : MethodName) prog_28_method_5_code 3 (some .boolean) :: ws) ({ frames := 1, cells := 0, slots := 0, locals := 12 } : Room)) (fun a U => a = #[(.ref w_LINE_END), (.int vb), (.int va)] ∧ Z.Warmed39 U.vm ∧ U.heap = h0) (fun _ _ _ _ _ => True) (fun _ U o U' => ∃ v L, o = .returned v ∧ Q1_w_LINE_END_vb_va_rff Z w_LINE_END vb va h0 n0 v U'.heap L ∧ FrameEnd U o U' L ({ frames := 1, cells := 0, slots := 0, locals := 12 } : Room).cells ({ frames := 1, cells := 0, slots := 0, locals := 12 } : Room).slots) := by
  refine MetFree.of_bodySF (plainFor_of_name pn_1) hisR ?_
  intro p e s m args below meth c s₁ Bd hml0 hP hK
  obtain ⟨rfl, hZ, hh⟩ := hP
  have hx := Bd.exec
  have hby := Bd.bytes
  have hml : c.maxLocals = 3 := hml0
  have hown : s.vm.findClass "com/example/termwell/termwell/core/text/RegexNode$Anchor" = some m.cls := findClass_of_methodNamed Bd.named
  have hnm := (name_of_methodNamed Bd.named Bd.method).1
  have X0 : Stand p l e ({ frames := 1, cells := 0, slots := 0, locals := 12 } : Room) s m #[(.ref w_LINE_END), (.int vb), (.int va)] below meth c s₁ [] 0 0 := Stand.of_body Bd
  have e0 : s₁.heap = h0 := by rw [← hh, Bd.state]; rfl
  have N0 := Fr.nil n0
  have pre0 : ∀ t, Steps p.tables e below (s₁.setTop (mkF m 0 #[.val (.ref w_LINE_END), .val (.int vb), .val (.int va)] [])) t → Steps p.tables e below (s₁.setTop (entryFrame m #[(.ref w_LINE_END), (.int vb), (.int va)] 3)) t := fun t k => castTop (by first | (simp [entryFrame, mkF, argsToLocals, Value.category]; done) | rfl) k
  obtain ⟨cq1, kq1, q1a, q1b, q1c⟩ := isOf hZ e0 E_w_LINE_END
  obtain ⟨_, _, ⟨T1, L1, k1, n1⟩, -, X1, ⟨Lc1, hQ1, l1, y1, z1⟩, st1⟩ := X0.virtualBackUp hx (x := (⟨"com/example/termwell/termwell/core/text/RegexNode$Anchor", "ordinal", "()I"⟩ : MethodName)) (y := (⟨"java/lang/Enum", "ordinal", "()I"⟩ : MethodName)) (owner := "java/lang/Enum") hown (mvT hZ (hw _ (List.mem_of_getElem? (i := 9) rfl))) (mvT hZ (hw _ (List.mem_of_getElem? (i := 10) rfl))) (mvT hZ (hw _ (List.mem_of_getElem? (i := 11) rfl))) (by decide) (mvT hZ (hw _ (List.mem_of_getElem? (i := 13) rfl))) (mvT hZ (hw _ (List.mem_of_getElem? (i := 12) rfl))) (backOf (W := 0) (rm2_w_LINE_END l Z a0 hw [] w_LINE_END h0 n0 Z0 F_ordinal_w_LINE_END) hZ (hw _ (List.mem_of_getElem? (i := 15) rfl)) (hw _ (List.mem_of_getElem? (i := 14) rfl)) (by decide) (by decide)) q1a q1c (g := (mkF m 1 #[.val (.ref w_LINE_END), .val (.int vb), .val (.int va)] [(.ref w_LINE_END)])) rfl (by rw [hml]; rfl) (Steps.refl _) (argsL := []) (rest := []) (lenOf pd___I rfl) rfl (by show 2 * 0 + _ ≤ _; exact Nat.le_of_eq rfl) (hb hby d1_1) (fun _ _ => ⟨rfl, e0, (by decide : 0 + 0 ≤ _), (by decide : 0 + 0 ≤ _)⟩)
  dsimp only [Pt.U, Pt.locs, Pt.cells, Pt.slots] at X1 l1 y1 z1 st1 hQ1
  subst l1 y1 z1
  obtain ⟨rfl, N1q, e1⟩ := hQ1
  have N1 := Fr.app N0 N1q
  obtain ⟨fs, hr, hrun, hended, hW, hsame⟩ := X1.leave (v := some (.int 1)) (fun h => by rw [Bd.returns] at h; cases h)
  refine ⟨_, _, pre0 _ ?_, hrun, hended, _, _, rfl, ?_, ⟨_, rfl⟩, hW, hsame.mono (by decide) (by decide)⟩
  · show Steps p.tables e below (s₁.setTop (mkF m 0 #[.val (.ref w_LINE_END), .val (.int vb), .val (.int va)] [])) _
    refine XS.aloadN X0.here hx rfl (hb hby d1_0) rfl rfl ?_
    show Steps p.tables e below (s₁.setTop (mkF m 1 #[.val (.ref w_LINE_END), .val (.int vb), .val (.int va)] [(.ref w_LINE_END)])) _
    refine st1.trans ?_
    show Steps p.tables e below (T1.setTop (mkF m 4 #[.val (.ref w_LINE_END), .val (.int vb), .val (.int va)] [(.int 3)])) _
    refine XS.tswIn X1.here hx rfl (pc0 := 4) (pc' := 95) rfl (hb hby d1_4) rfl (by decide) (o := 91) (by decide) (by decide) (by decide) ?_
    show Steps p.tables e below (T1.setTop (mkF m 95 #[.val (.ref w_LINE_END), .val (.int vb), .val (.int va)] [])) _
    refine XS.iloadN X1.here hx rfl (hb hby d1_95) rfl ?_
    show Steps p.tables e below (T1.setTop (mkF m 96 #[.val (.ref w_LINE_END), .val (.int vb), .val (.int va)] [(.int va)])) _
    refine XS.ifNo X1.here hx rfl (hb hby d1_96) rfl ((if0 _ _).trans (feq hc96).1) ?_
    show Steps p.tables e below (T1.setTop (mkF m 99 #[.val (.ref w_LINE_END), .val (.int vb), .val (.int va)] [])) _
    refine XS.iloadN X1.here hx rfl (hb hby d1_99) rfl ?_
    show Steps p.tables e below (T1.setTop (mkF m 100 #[.val (.ref w_LINE_END), .val (.int vb), .val (.int va)] [(.int va)])) _
    refine XS.iconst X1.here hx rfl (hb hby d1_100) ?_
    show Steps p.tables e below (T1.setTop (mkF m 101 #[.val (.ref w_LINE_END), .val (.int vb), .val (.int va)] [(.int 1), (.int va)])) _
    refine XS.icmpNo X1.here hx rfl (hb hby d1_101) rfl (teq hc101).2 ?_
    show Steps p.tables e below (T1.setTop (mkF m 104 #[.val (.ref w_LINE_END), .val (.int vb), .val (.int va)] [])) _
    refine XS.iconst X1.here hx rfl (hb hby d1_104) ?_
    show Steps p.tables e below (T1.setTop (mkF m 105 #[.val (.ref w_LINE_END), .val (.int vb), .val (.int va)] [(.int 1)])) _
    refine XS.goto X1.here hx rfl (pc0 := 105) (pc' := 171) rfl (hb hby d1_105) (by decide) (by decide) ?_
    show Steps p.tables e below (T1.setTop (mkF m 171 #[.val (.ref w_LINE_END), .val (.int vb), .val (.int va)] [(.int 1)])) _
    exact retN X1 hx (t := .boolean) Bd.returns (by simp) (hb hby d1_171) hr
  · show Q1_w_LINE_END_vb_va_rff Z w_LINE_END vb va h0 n0 _ T1.heap _
    rw [e1]
    exact ⟨rfl, N1, rfl⟩
def Q0_k3ff (Z : State) (p1 : Int32) (p2 : Int32) (p3 : Int32) (vb : Int32) (va : Int32) (w_LINE_END : Addr) (h0 : Heap) (n0 : Nat) (v : Option Value) (h : Heap) (L : List Loc) : Prop := v = some (.int 1) ∧ Fr n0 L ∧ h = h0
set_option maxRecDepth 65536 in
set_option maxHeartbeats 40000000 in
theorem rm0_k3ff (l : Launch) (Z : State) (a0 : Array Value) (hw : ∀ d ∈ tables_1, d.before a0 Z = true) (ws : List Jvm.Cond) (p1 : Int32) (p2 : Int32) (p3 : Int32) (vb : Int32) (va : Int32) (w_LINE_END : Addr) (h0 : Heap) (n0 : Nat) (Z0 : n0 ≤ h0.size) (hk : ((p1 &&& (2147483647 : Int32)) % (6 : Int32)) = (3 : Int32)) (hvb : (p2 &&& (3 : Int32)) = vb) (hva : (p3 &&& (3 : Int32)) = va) (S_LINE_END : Sta Z h0 "com/example/termwell/termwell/core/text/RegexNode$Anchor" "LINE_END" "Lcom/example/termwell/termwell/core/text/RegexNode$Anchor;" (.ref w_LINE_END)) (he : ((((13107 : Int32).toUInt32 >>> (((vb * (4 : Int32)) + va) &&& 31).toUInt32).toInt32) &&& (1 : Int32)) = (1 : Int32)) (F_ordinal_w_LINE_END : Fld Z h0 w_LINE_END "java/lang/Enum" "ordinal" "I" (.int 3)) (E_w_LINE_END : Exa Z h0 w_LINE_END "com/example/termwell/termwell/core/text/RegexNode$Anchor") (hc96 : ¬ (va = (0 : Int32))) (hc101 : va = (1 : Int32)) :
    MetFree l x (head1 (Jvm.Cond.code x code maxLocals ret :: ws) room_1) (fun a U => a = #[(.int p1), (.int p2), (.int p3)] ∧ Z.Warmed39 U.vm ∧ U.heap = h0) (fun _ _ _ _ _ => True) (fun _ U o U' => ∃ v L, o = .returned v ∧ Q0_k3ff Z p1 p2 p3 vb va w_LINE_END h0 n0 v U'.heap L ∧ FrameEnd U o U' L room_1.cells room_1.slots) := by
  refine MetFree.of_bodySF (plainFor_of_name pn_0) hisR ?_
  intro p e s m args below meth c s₁ Bd hml0 hP hK
  obtain ⟨rfl, hZ, hh⟩ := hP
  have hx := Bd.exec
  have hby := Bd.bytes
  have hml : c.maxLocals = 9 := hml0
  have hown : s.vm.findClass "com/example/termwell/termwell/core/text/AnchorHoldsPinLaw" = some m.cls := findClass_of_methodNamed Bd.named
  have hnm := (name_of_methodNamed Bd.named Bd.method).1
  have X0 : Stand p l e room_1 s m #[(.int p1), (.int p2), (.int p3)] below meth c s₁ [] 0 0 := Stand.of_body Bd
  have e0 : s₁.heap = h0 := by rw [← hh, Bd.state]; rfl
  have N0 := Fr.nil n0
  have pre0 : ∀ t, Steps p.tables e below (s₁.setTop (mkF m 0 #[.val (.int p1), .val (.int p2), .val (.int p3), .unset, .unset, .unset, .unset, .unset, .unset] [])) t → Steps p.tables e below (s₁.setTop (entryFrame m #[(.int p1), (.int p2), (.int p3)] maxLocals)) t := fun t k => castTop (by first | (simp [entryFrame, mkF, argsToLocals, Value.category, maxLocals]; done) | rfl) k
  obtain ⟨T1, X1, e1, st1⟩ := getS2 X0 hx hZ hown (host := "") (Or.inl (hw _ (List.mem_of_getElem? (i := 25) rfl))) Via.refl e0 S_LINE_END (g := (mkF m 75 #[.val (.int p1), .val (.int p2), .val (.int p3), .val (.int 3), .val (.int vb), .val (.int va), .unset, .unset, .unset] [])) rfl (hb hby at_75)
  obtain ⟨cq2, kq2, q2a, q2b, q2c⟩ := isOf hZ e1 E_w_LINE_END
  obtain ⟨_, _, ⟨T2, L2, k2, n2⟩, -, X2, ⟨Lc2, hQ2, l2, y2, z2⟩, st2⟩ := X1.virtualBack hx (y := (⟨"com/example/termwell/termwell/core/text/RegexNode$Anchor", "holds", "(II)Z"⟩ : MethodName)) (z := (⟨"com/example/termwell/termwell/core/text/RegexNode$Anchor", "holds", "(II)Z"⟩ : MethodName)) hown (mvT hZ (hw _ (List.mem_of_getElem? (i := 4) rfl))) (mvT hZ (hw _ (List.mem_of_getElem? (i := 5) rfl))) (notFace_of_selects (args := #[]) (mvT hZ (hw _ (List.mem_of_getElem? (i := 7) rfl)))) (mvT hZ (hw _ (List.mem_of_getElem? (i := 7) rfl))) (mvT hZ (hw _ (List.mem_of_getElem? (i := 6) rfl))) (by decide) (backOf (W := 0) (rm1_w_LINE_END_vb_va_rff l Z a0 hw [] w_LINE_END vb va h0 n0 Z0 F_ordinal_w_LINE_END E_w_LINE_END hc96 hc101) hZ (hw _ (List.mem_of_getElem? (i := 8) rfl)) (hw _ (List.mem_of_getElem? (i := 2) rfl)) (by decide) (by decide)) q2a q2c (g := (mkF m 143 #[.val (.int p1), .val (.int p2), .val (.int p3), .val (.int 3), .val (.int vb), .val (.int va), .val (.ref w_LINE_END), .val (.int 13107), .val (.int 1)] [(.int va), (.int vb), (.ref w_LINE_END)])) rfl (by rw [hml]; rfl) (Steps.refl _) (argsL := [(.int vb), (.int va)]) (rest := []) (lenOf pd__II_Z rfl) rfl (by show 2 * 0 + _ ≤ _; exact Nat.le_of_eq rfl) (hb hby at_143) (fun _ _ => ⟨rfl, e1, (by decide : 0 + 0 ≤ _), (by decide : 0 + 0 ≤ _)⟩)
  dsimp only [Pt.U, Pt.locs, Pt.cells, Pt.slots] at X2 l2 y2 z2 st2 hQ2
  subst l2 y2 z2
  obtain ⟨rfl, N2q, e2⟩ := hQ2
  have N2 := Fr.app N0 N2q
  obtain ⟨fs, hr, hrun, hended, hW, hsame⟩ := X2.leave (v := some (.int 1)) (fun h => by rw [Bd.returns] at h; cases h)
  refine ⟨_, _, pre0 _ ?_, hrun, hended, _, _, rfl, ?_, ⟨_, rfl⟩, hW, hsame.mono (by decide) (by decide)⟩
  · show Steps p.tables e below (s₁.setTop (mkF m 0 #[.val (.int p1), .val (.int p2), .val (.int p3), .unset, .unset, .unset, .unset, .unset, .unset] [])) _
    refine XS.iloadN X0.here hx rfl (hb hby at_0) rfl ?_
    show Steps p.tables e below (s₁.setTop (mkF m 1 #[.val (.int p1), .val (.int p2), .val (.int p3), .unset, .unset, .unset, .unset, .unset, .unset] [(.int p1)])) _
    refine X0.ldcInt hx hown (mvT hZ (hw _ (List.mem_of_getElem? (i := 0) rfl))) (g := (mkF m 1 #[.val (.int p1), .val (.int p2), .val (.int p3), .unset, .unset, .unset, .unset, .unset, .unset] [(.int p1)])) rfl (hb hby at_1) _ ?_
    show Steps p.tables e below (s₁.setTop (mkF m 3 #[.val (.int p1), .val (.int p2), .val (.int p3), .unset, .unset, .unset, .unset, .unset, .unset] [(.int 2147483647), (.int p1)])) _
    refine XS.iand X0.here hx rfl (hb hby at_3) rfl ?_
    show Steps p.tables e below (s₁.setTop (mkF m 4 #[.val (.int p1), .val (.int p2), .val (.int p3), .unset, .unset, .unset, .unset, .unset, .unset] [(.int (p1 &&& (2147483647 : Int32)))])) _
    refine XS.bipush X0.here hx rfl (hb hby at_4) ?_
    show Steps p.tables e below (s₁.setTop (mkF m 6 #[.val (.int p1), .val (.int p2), .val (.int p3), .unset, .unset, .unset, .unset, .unset, .unset] [(.int 6), (.int (p1 &&& (2147483647 : Int32)))])) _
    refine iremM X0 hx rfl (hb hby at_6) rfl (by decide) ?_
    show Steps p.tables e below (s₁.setTop (mkF m 7 #[.val (.int p1), .val (.int p2), .val (.int p3), .unset, .unset, .unset, .unset, .unset, .unset] [(.int ((p1 &&& (2147483647 : Int32)) % (6 : Int32)))])) _
    rw [hk]
    show Steps p.tables e below (s₁.setTop (mkF m 7 #[.val (.int p1), .val (.int p2), .val (.int p3), .unset, .unset, .unset, .unset, .unset, .unset] [(.int 3)])) _
    refine XS.istoreN X0.here hx rfl (hb hby at_7) rfl (l' := #[.val (.int p1), .val (.int p2), .val (.int p3), .val (.int 3), .unset, .unset, .unset, .unset, .unset]) rfl ?_
    show Steps p.tables e below (s₁.setTop (mkF m 8 #[.val (.int p1), .val (.int p2), .val (.int p3), .val (.int 3), .unset, .unset, .unset, .unset, .unset] [])) _
    refine XS.iloadN X0.here hx rfl (hb hby at_8) rfl ?_
    show Steps p.tables e below (s₁.setTop (mkF m 9 #[.val (.int p1), .val (.int p2), .val (.int p3), .val (.int 3), .unset, .unset, .unset, .unset, .unset] [(.int p2)])) _
    refine XS.iconst X0.here hx rfl (hb hby at_9) ?_
    show Steps p.tables e below (s₁.setTop (mkF m 10 #[.val (.int p1), .val (.int p2), .val (.int p3), .val (.int 3), .unset, .unset, .unset, .unset, .unset] [(.int 3), (.int p2)])) _
    refine XS.iand X0.here hx rfl (hb hby at_10) rfl ?_
    show Steps p.tables e below (s₁.setTop (mkF m 11 #[.val (.int p1), .val (.int p2), .val (.int p3), .val (.int 3), .unset, .unset, .unset, .unset, .unset] [(.int (p2 &&& (3 : Int32)))])) _
    rw [hvb]
    show Steps p.tables e below (s₁.setTop (mkF m 11 #[.val (.int p1), .val (.int p2), .val (.int p3), .val (.int 3), .unset, .unset, .unset, .unset, .unset] [(.int vb)])) _
    refine XS.istore X0.here hx rfl (hb hby at_11) rfl (l' := #[.val (.int p1), .val (.int p2), .val (.int p3), .val (.int 3), .val (.int vb), .unset, .unset, .unset, .unset]) rfl ?_
    show Steps p.tables e below (s₁.setTop (mkF m 13 #[.val (.int p1), .val (.int p2), .val (.int p3), .val (.int 3), .val (.int vb), .unset, .unset, .unset, .unset] [])) _
    refine XS.iloadN X0.here hx rfl (hb hby at_13) rfl ?_
    show Steps p.tables e below (s₁.setTop (mkF m 14 #[.val (.int p1), .val (.int p2), .val (.int p3), .val (.int 3), .val (.int vb), .unset, .unset, .unset, .unset] [(.int p3)])) _
    refine XS.iconst X0.here hx rfl (hb hby at_14) ?_
    show Steps p.tables e below (s₁.setTop (mkF m 15 #[.val (.int p1), .val (.int p2), .val (.int p3), .val (.int 3), .val (.int vb), .unset, .unset, .unset, .unset] [(.int 3), (.int p3)])) _
    refine XS.iand X0.here hx rfl (hb hby at_15) rfl ?_
    show Steps p.tables e below (s₁.setTop (mkF m 16 #[.val (.int p1), .val (.int p2), .val (.int p3), .val (.int 3), .val (.int vb), .unset, .unset, .unset, .unset] [(.int (p3 &&& (3 : Int32)))])) _
    rw [hva]
    show Steps p.tables e below (s₁.setTop (mkF m 16 #[.val (.int p1), .val (.int p2), .val (.int p3), .val (.int 3), .val (.int vb), .unset, .unset, .unset, .unset] [(.int va)])) _
    refine XS.istore X0.here hx rfl (hb hby at_16) rfl (l' := #[.val (.int p1), .val (.int p2), .val (.int p3), .val (.int 3), .val (.int vb), .val (.int va), .unset, .unset, .unset]) rfl ?_
    show Steps p.tables e below (s₁.setTop (mkF m 18 #[.val (.int p1), .val (.int p2), .val (.int p3), .val (.int 3), .val (.int vb), .val (.int va), .unset, .unset, .unset] [])) _
    refine XS.iloadN X0.here hx rfl (hb hby at_18) rfl ?_
    show Steps p.tables e below (s₁.setTop (mkF m 19 #[.val (.int p1), .val (.int p2), .val (.int p3), .val (.int 3), .val (.int vb), .val (.int va), .unset, .unset, .unset] [(.int 3)])) _
    refine XS.ifYes X0.here hx rfl (pc0 := 19) (pc' := 34) rfl (hb hby at_19) rfl ((if0 _ _).trans (feq (by decide : ¬ ((3 : Int32) = (0 : Int32)))).2) (by decide) (by decide) ?_
    show Steps p.tables e below (s₁.setTop (mkF m 34 #[.val (.int p1), .val (.int p2), .val (.int p3), .val (.int 3), .val (.int vb), .val (.int va), .unset, .unset, .unset] [])) _
    refine XS.iloadN X0.here hx rfl (hb hby at_34) rfl ?_
    show Steps p.tables e below (s₁.setTop (mkF m 35 #[.val (.int p1), .val (.int p2), .val (.int p3), .val (.int 3), .val (.int vb), .val (.int va), .unset, .unset, .unset] [(.int 3)])) _
    refine XS.iconst X0.here hx rfl (hb hby at_35) ?_
    show Steps p.tables e below (s₁.setTop (mkF m 36 #[.val (.int p1), .val (.int p2), .val (.int p3), .val (.int 3), .val (.int vb), .val (.int va), .unset, .unset, .unset] [(.int 1), (.int 3)])) _
    refine XS.icmpYes X0.here hx rfl (pc0 := 36) (pc' := 52) rfl (hb hby at_36) rfl (feq (by decide : ¬ ((3 : Int32) = (1 : Int32)))).2 (by decide) (by decide) ?_
    show Steps p.tables e below (s₁.setTop (mkF m 52 #[.val (.int p1), .val (.int p2), .val (.int p3), .val (.int 3), .val (.int vb), .val (.int va), .unset, .unset, .unset] [])) _
    refine XS.iloadN X0.here hx rfl (hb hby at_52) rfl ?_
    show Steps p.tables e below (s₁.setTop (mkF m 53 #[.val (.int p1), .val (.int p2), .val (.int p3), .val (.int 3), .val (.int vb), .val (.int va), .unset, .unset, .unset] [(.int 3)])) _
    refine XS.iconst X0.here hx rfl (hb hby at_53) ?_
    show Steps p.tables e below (s₁.setTop (mkF m 54 #[.val (.int p1), .val (.int p2), .val (.int p3), .val (.int 3), .val (.int vb), .val (.int va), .unset, .unset, .unset] [(.int 2), (.int 3)])) _
    refine XS.icmpYes X0.here hx rfl (pc0 := 54) (pc' := 70) rfl (hb hby at_54) rfl (feq (by decide : ¬ ((3 : Int32) = (2 : Int32)))).2 (by decide) (by decide) ?_
    show Steps p.tables e below (s₁.setTop (mkF m 70 #[.val (.int p1), .val (.int p2), .val (.int p3), .val (.int 3), .val (.int vb), .val (.int va), .unset, .unset, .unset] [])) _
    refine XS.iloadN X0.here hx rfl (hb hby at_70) rfl ?_
    show Steps p.tables e below (s₁.setTop (mkF m 71 #[.val (.int p1), .val (.int p2), .val (.int p3), .val (.int 3), .val (.int vb), .val (.int va), .unset, .unset, .unset] [(.int 3)])) _
    refine XS.iconst X0.here hx rfl (hb hby at_71) ?_
    show Steps p.tables e below (s₁.setTop (mkF m 72 #[.val (.int p1), .val (.int p2), .val (.int p3), .val (.int 3), .val (.int vb), .val (.int va), .unset, .unset, .unset] [(.int 3), (.int 3)])) _
    refine XS.icmpNo X0.here hx rfl (hb hby at_72) rfl (teq (by decide : (3 : Int32) = (3 : Int32))).2 ?_
    show Steps p.tables e below (s₁.setTop (mkF m 75 #[.val (.int p1), .val (.int p2), .val (.int p3), .val (.int 3), .val (.int vb), .val (.int va), .unset, .unset, .unset] [])) _
    refine st1 _ ?_
    show Steps p.tables e below (T1.setTop (mkF m 78 #[.val (.int p1), .val (.int p2), .val (.int p3), .val (.int 3), .val (.int vb), .val (.int va), .unset, .unset, .unset] [(.ref w_LINE_END)])) _
    refine XS.astore X1.here hx rfl (hb hby at_78) rfl rfl (l' := #[.val (.int p1), .val (.int p2), .val (.int p3), .val (.int 3), .val (.int vb), .val (.int va), .val (.ref w_LINE_END), .unset, .unset]) rfl ?_
    show Steps p.tables e below (T1.setTop (mkF m 80 #[.val (.int p1), .val (.int p2), .val (.int p3), .val (.int 3), .val (.int vb), .val (.int va), .val (.ref w_LINE_END), .unset, .unset] [])) _
    refine XS.sipush X1.here hx rfl (hb hby at_80) ?_
    show Steps p.tables e below (T1.setTop (mkF m 83 #[.val (.int p1), .val (.int p2), .val (.int p3), .val (.int 3), .val (.int vb), .val (.int va), .val (.ref w_LINE_END), .unset, .unset] [(.int 13107)])) _
    refine XS.istore X1.here hx rfl (hb hby at_83) rfl (l' := #[.val (.int p1), .val (.int p2), .val (.int p3), .val (.int 3), .val (.int vb), .val (.int va), .val (.ref w_LINE_END), .val (.int 13107), .unset]) rfl ?_
    show Steps p.tables e below (T1.setTop (mkF m 85 #[.val (.int p1), .val (.int p2), .val (.int p3), .val (.int 3), .val (.int vb), .val (.int va), .val (.ref w_LINE_END), .val (.int 13107), .unset] [])) _
    refine XS.goto X1.here hx rfl (pc0 := 85) (pc' := 115) rfl (hb hby at_85) (by decide) (by decide) ?_
    show Steps p.tables e below (T1.setTop (mkF m 115 #[.val (.int p1), .val (.int p2), .val (.int p3), .val (.int 3), .val (.int vb), .val (.int va), .val (.ref w_LINE_END), .val (.int 13107), .unset] [])) _
    refine XS.iload X1.here hx rfl (hb hby at_115) rfl ?_
    show Steps p.tables e below (T1.setTop (mkF m 117 #[.val (.int p1), .val (.int p2), .val (.int p3), .val (.int 3), .val (.int vb), .val (.int va), .val (.ref w_LINE_END), .val (.int 13107), .unset] [(.int 13107)])) _
    refine XS.iload X1.here hx rfl (hb hby at_117) rfl ?_
    show Steps p.tables e below (T1.setTop (mkF m 119 #[.val (.int p1), .val (.int p2), .val (.int p3), .val (.int 3), .val (.int vb), .val (.int va), .val (.ref w_LINE_END), .val (.int 13107), .unset] [(.int vb), (.int 13107)])) _
    refine XS.iconst X1.here hx rfl (hb hby at_119) ?_
    show Steps p.tables e below (T1.setTop (mkF m 120 #[.val (.int p1), .val (.int p2), .val (.int p3), .val (.int 3), .val (.int vb), .val (.int va), .val (.ref w_LINE_END), .val (.int 13107), .unset] [(.int 4), (.int vb), (.int 13107)])) _
    refine XS.imul X1.here hx rfl (hb hby at_120) rfl ?_
    show Steps p.tables e below (T1.setTop (mkF m 121 #[.val (.int p1), .val (.int p2), .val (.int p3), .val (.int 3), .val (.int vb), .val (.int va), .val (.ref w_LINE_END), .val (.int 13107), .unset] [(.int (vb * (4 : Int32))), (.int 13107)])) _
    refine XS.iload X1.here hx rfl (hb hby at_121) rfl ?_
    show Steps p.tables e below (T1.setTop (mkF m 123 #[.val (.int p1), .val (.int p2), .val (.int p3), .val (.int 3), .val (.int vb), .val (.int va), .val (.ref w_LINE_END), .val (.int 13107), .unset] [(.int va), (.int (vb * (4 : Int32))), (.int 13107)])) _
    refine XS.iadd X1.here hx rfl (hb hby at_123) rfl ?_
    show Steps p.tables e below (T1.setTop (mkF m 124 #[.val (.int p1), .val (.int p2), .val (.int p3), .val (.int 3), .val (.int vb), .val (.int va), .val (.ref w_LINE_END), .val (.int 13107), .unset] [(.int ((vb * (4 : Int32)) + va)), (.int 13107)])) _
    refine XS.iushr X1.here hx rfl (hb hby at_124) rfl ?_
    show Steps p.tables e below (T1.setTop (mkF m 125 #[.val (.int p1), .val (.int p2), .val (.int p3), .val (.int 3), .val (.int vb), .val (.int va), .val (.ref w_LINE_END), .val (.int 13107), .unset] [(.int (((13107 : Int32).toUInt32 >>> (((vb * (4 : Int32)) + va) &&& 31).toUInt32).toInt32))])) _
    refine XS.iconst X1.here hx rfl (hb hby at_125) ?_
    show Steps p.tables e below (T1.setTop (mkF m 126 #[.val (.int p1), .val (.int p2), .val (.int p3), .val (.int 3), .val (.int vb), .val (.int va), .val (.ref w_LINE_END), .val (.int 13107), .unset] [(.int 1), (.int (((13107 : Int32).toUInt32 >>> (((vb * (4 : Int32)) + va) &&& 31).toUInt32).toInt32))])) _
    refine XS.iand X1.here hx rfl (hb hby at_126) rfl ?_
    show Steps p.tables e below (T1.setTop (mkF m 127 #[.val (.int p1), .val (.int p2), .val (.int p3), .val (.int 3), .val (.int vb), .val (.int va), .val (.ref w_LINE_END), .val (.int 13107), .unset] [(.int ((((13107 : Int32).toUInt32 >>> (((vb * (4 : Int32)) + va) &&& 31).toUInt32).toInt32) &&& (1 : Int32)))])) _
    rw [he]
    show Steps p.tables e below (T1.setTop (mkF m 127 #[.val (.int p1), .val (.int p2), .val (.int p3), .val (.int 3), .val (.int vb), .val (.int va), .val (.ref w_LINE_END), .val (.int 13107), .unset] [(.int 1)])) _
    refine XS.ifNo X1.here hx rfl (hb hby at_127) rfl ((if0 _ _).trans (feq (by decide : ¬ ((1 : Int32) = (0 : Int32)))).1) ?_
    show Steps p.tables e below (T1.setTop (mkF m 130 #[.val (.int p1), .val (.int p2), .val (.int p3), .val (.int 3), .val (.int vb), .val (.int va), .val (.ref w_LINE_END), .val (.int 13107), .unset] [])) _
    refine XS.iconst X1.here hx rfl (hb hby at_130) ?_
    show Steps p.tables e below (T1.setTop (mkF m 131 #[.val (.int p1), .val (.int p2), .val (.int p3), .val (.int 3), .val (.int vb), .val (.int va), .val (.ref w_LINE_END), .val (.int 13107), .unset] [(.int 1)])) _
    refine XS.goto X1.here hx rfl (pc0 := 131) (pc' := 135) rfl (hb hby at_131) (by decide) (by decide) ?_
    show Steps p.tables e below (T1.setTop (mkF m 135 #[.val (.int p1), .val (.int p2), .val (.int p3), .val (.int 3), .val (.int vb), .val (.int va), .val (.ref w_LINE_END), .val (.int 13107), .unset] [(.int 1)])) _
    refine XS.istore X1.here hx rfl (hb hby at_135) rfl (l' := #[.val (.int p1), .val (.int p2), .val (.int p3), .val (.int 3), .val (.int vb), .val (.int va), .val (.ref w_LINE_END), .val (.int 13107), .val (.int 1)]) rfl ?_
    show Steps p.tables e below (T1.setTop (mkF m 137 #[.val (.int p1), .val (.int p2), .val (.int p3), .val (.int 3), .val (.int vb), .val (.int va), .val (.ref w_LINE_END), .val (.int 13107), .val (.int 1)] [])) _
    refine XS.aload X1.here hx rfl (hb hby at_137) rfl rfl ?_
    show Steps p.tables e below (T1.setTop (mkF m 139 #[.val (.int p1), .val (.int p2), .val (.int p3), .val (.int 3), .val (.int vb), .val (.int va), .val (.ref w_LINE_END), .val (.int 13107), .val (.int 1)] [(.ref w_LINE_END)])) _
    refine XS.iload X1.here hx rfl (hb hby at_139) rfl ?_
    show Steps p.tables e below (T1.setTop (mkF m 141 #[.val (.int p1), .val (.int p2), .val (.int p3), .val (.int 3), .val (.int vb), .val (.int va), .val (.ref w_LINE_END), .val (.int 13107), .val (.int 1)] [(.int vb), (.ref w_LINE_END)])) _
    refine XS.iload X1.here hx rfl (hb hby at_141) rfl ?_
    show Steps p.tables e below (T1.setTop (mkF m 143 #[.val (.int p1), .val (.int p2), .val (.int p3), .val (.int 3), .val (.int vb), .val (.int va), .val (.ref w_LINE_END), .val (.int 13107), .val (.int 1)] [(.int va), (.int vb), (.ref w_LINE_END)])) _
    refine st2.trans ?_
    show Steps p.tables e below (T2.setTop (mkF m 146 #[.val (.int p1), .val (.int p2), .val (.int p3), .val (.int 3), .val (.int vb), .val (.int va), .val (.ref w_LINE_END), .val (.int 13107), .val (.int 1)] [(.int 1)])) _
    refine XS.iload X2.here hx rfl (hb hby at_146) rfl ?_
    show Steps p.tables e below (T2.setTop (mkF m 148 #[.val (.int p1), .val (.int p2), .val (.int p3), .val (.int 3), .val (.int vb), .val (.int va), .val (.ref w_LINE_END), .val (.int 13107), .val (.int 1)] [(.int 1), (.int 1)])) _
    refine XS.icmpNo X2.here hx rfl (hb hby at_148) rfl (teq (by decide : (1 : Int32) = (1 : Int32))).2 ?_
    show Steps p.tables e below (T2.setTop (mkF m 151 #[.val (.int p1), .val (.int p2), .val (.int p3), .val (.int 3), .val (.int vb), .val (.int va), .val (.ref w_LINE_END), .val (.int 13107), .val (.int 1)] [])) _
    refine XS.iconst X2.here hx rfl (hb hby at_151) ?_
    show Steps p.tables e below (T2.setTop (mkF m 152 #[.val (.int p1), .val (.int p2), .val (.int p3), .val (.int 3), .val (.int vb), .val (.int va), .val (.ref w_LINE_END), .val (.int 13107), .val (.int 1)] [(.int 1)])) _
    refine XS.goto X2.here hx rfl (pc0 := 152) (pc' := 156) rfl (hb hby at_152) (by decide) (by decide) ?_
    show Steps p.tables e below (T2.setTop (mkF m 156 #[.val (.int p1), .val (.int p2), .val (.int p3), .val (.int 3), .val (.int vb), .val (.int va), .val (.ref w_LINE_END), .val (.int 13107), .val (.int 1)] [(.int 1)])) _
    exact retN X2 hx (t := .boolean) Bd.returns (by simp) (hb hby at_156) hr
  · show Q0_k3ff Z p1 p2 p3 vb va w_LINE_END h0 n0 _ T2.heap _
    rw [e2]
    exact ⟨rfl, N2, rfl⟩
def Q1_w_LINE_END_vb_va_rft (Z : State) (w_LINE_END : Addr) (vb : Int32) (va : Int32) (h0 : Heap) (n0 : Nat) (v : Option Value) (h : Heap) (L : List Loc) : Prop := v = some (.int 0) ∧ Fr n0 L ∧ h = h0
set_option maxRecDepth 65536 in
set_option maxHeartbeats 40000000 in
theorem rm1_w_LINE_END_vb_va_rft (l : Launch) (Z : State) (a0 : Array Value) (hw : ∀ d ∈ tables_1, d.before a0 Z = true) (ws : List Jvm.Cond) (w_LINE_END : Addr) (vb : Int32) (va : Int32) (h0 : Heap) (n0 : Nat) (Z0 : n0 ≤ h0.size) (F_ordinal_w_LINE_END : Fld Z h0 w_LINE_END "java/lang/Enum" "ordinal" "I" (.int 3)) (E_w_LINE_END : Exa Z h0 w_LINE_END "com/example/termwell/termwell/core/text/RegexNode$Anchor") (hc96 : ¬ (va = (0 : Int32))) (hc101 : ¬ (va = (1 : Int32))) :
    MetFree l (⟨"com/example/termwell/termwell/core/text/RegexNode$Anchor", "holds", "(II)Z"⟩ : MethodName) (head1 (Jvm.Cond.code (⟨"com/example/termwell/termwell/core/text/RegexNode$Anchor", "holds", "(II)Z"⟩ : MethodName) prog_28_method_5_code 3 (some .boolean) :: ws) ({ frames := 1, cells := 0, slots := 0, locals := 12 } : Room)) (fun a U => a = #[(.ref w_LINE_END), (.int vb), (.int va)] ∧ Z.Warmed39 U.vm ∧ U.heap = h0) (fun _ _ _ _ _ => True) (fun _ U o U' => ∃ v L, o = .returned v ∧ Q1_w_LINE_END_vb_va_rft Z w_LINE_END vb va h0 n0 v U'.heap L ∧ FrameEnd U o U' L ({ frames := 1, cells := 0, slots := 0, locals := 12 } : Room).cells ({ frames := 1, cells := 0, slots := 0, locals := 12 } : Room).slots) := by
  refine MetFree.of_bodySF (plainFor_of_name pn_1) hisR ?_
  intro p e s m args below meth c s₁ Bd hml0 hP hK
  obtain ⟨rfl, hZ, hh⟩ := hP
  have hx := Bd.exec
  have hby := Bd.bytes
  have hml : c.maxLocals = 3 := hml0
  have hown : s.vm.findClass "com/example/termwell/termwell/core/text/RegexNode$Anchor" = some m.cls := findClass_of_methodNamed Bd.named
  have hnm := (name_of_methodNamed Bd.named Bd.method).1
  have X0 : Stand p l e ({ frames := 1, cells := 0, slots := 0, locals := 12 } : Room) s m #[(.ref w_LINE_END), (.int vb), (.int va)] below meth c s₁ [] 0 0 := Stand.of_body Bd
  have e0 : s₁.heap = h0 := by rw [← hh, Bd.state]; rfl
  have N0 := Fr.nil n0
  have pre0 : ∀ t, Steps p.tables e below (s₁.setTop (mkF m 0 #[.val (.ref w_LINE_END), .val (.int vb), .val (.int va)] [])) t → Steps p.tables e below (s₁.setTop (entryFrame m #[(.ref w_LINE_END), (.int vb), (.int va)] 3)) t := fun t k => castTop (by first | (simp [entryFrame, mkF, argsToLocals, Value.category]; done) | rfl) k
  obtain ⟨cq1, kq1, q1a, q1b, q1c⟩ := isOf hZ e0 E_w_LINE_END
  obtain ⟨_, _, ⟨T1, L1, k1, n1⟩, -, X1, ⟨Lc1, hQ1, l1, y1, z1⟩, st1⟩ := X0.virtualBackUp hx (x := (⟨"com/example/termwell/termwell/core/text/RegexNode$Anchor", "ordinal", "()I"⟩ : MethodName)) (y := (⟨"java/lang/Enum", "ordinal", "()I"⟩ : MethodName)) (owner := "java/lang/Enum") hown (mvT hZ (hw _ (List.mem_of_getElem? (i := 9) rfl))) (mvT hZ (hw _ (List.mem_of_getElem? (i := 10) rfl))) (mvT hZ (hw _ (List.mem_of_getElem? (i := 11) rfl))) (by decide) (mvT hZ (hw _ (List.mem_of_getElem? (i := 13) rfl))) (mvT hZ (hw _ (List.mem_of_getElem? (i := 12) rfl))) (backOf (W := 0) (rm2_w_LINE_END l Z a0 hw [] w_LINE_END h0 n0 Z0 F_ordinal_w_LINE_END) hZ (hw _ (List.mem_of_getElem? (i := 15) rfl)) (hw _ (List.mem_of_getElem? (i := 14) rfl)) (by decide) (by decide)) q1a q1c (g := (mkF m 1 #[.val (.ref w_LINE_END), .val (.int vb), .val (.int va)] [(.ref w_LINE_END)])) rfl (by rw [hml]; rfl) (Steps.refl _) (argsL := []) (rest := []) (lenOf pd___I rfl) rfl (by show 2 * 0 + _ ≤ _; exact Nat.le_of_eq rfl) (hb hby d1_1) (fun _ _ => ⟨rfl, e0, (by decide : 0 + 0 ≤ _), (by decide : 0 + 0 ≤ _)⟩)
  dsimp only [Pt.U, Pt.locs, Pt.cells, Pt.slots] at X1 l1 y1 z1 st1 hQ1
  subst l1 y1 z1
  obtain ⟨rfl, N1q, e1⟩ := hQ1
  have N1 := Fr.app N0 N1q
  obtain ⟨fs, hr, hrun, hended, hW, hsame⟩ := X1.leave (v := some (.int 0)) (fun h => by rw [Bd.returns] at h; cases h)
  refine ⟨_, _, pre0 _ ?_, hrun, hended, _, _, rfl, ?_, ⟨_, rfl⟩, hW, hsame.mono (by decide) (by decide)⟩
  · show Steps p.tables e below (s₁.setTop (mkF m 0 #[.val (.ref w_LINE_END), .val (.int vb), .val (.int va)] [])) _
    refine XS.aloadN X0.here hx rfl (hb hby d1_0) rfl rfl ?_
    show Steps p.tables e below (s₁.setTop (mkF m 1 #[.val (.ref w_LINE_END), .val (.int vb), .val (.int va)] [(.ref w_LINE_END)])) _
    refine st1.trans ?_
    show Steps p.tables e below (T1.setTop (mkF m 4 #[.val (.ref w_LINE_END), .val (.int vb), .val (.int va)] [(.int 3)])) _
    refine XS.tswIn X1.here hx rfl (pc0 := 4) (pc' := 95) rfl (hb hby d1_4) rfl (by decide) (o := 91) (by decide) (by decide) (by decide) ?_
    show Steps p.tables e below (T1.setTop (mkF m 95 #[.val (.ref w_LINE_END), .val (.int vb), .val (.int va)] [])) _
    refine XS.iloadN X1.here hx rfl (hb hby d1_95) rfl ?_
    show Steps p.tables e below (T1.setTop (mkF m 96 #[.val (.ref w_LINE_END), .val (.int vb), .val (.int va)] [(.int va)])) _
    refine XS.ifNo X1.here hx rfl (hb hby d1_96) rfl ((if0 _ _).trans (feq hc96).1) ?_
    show Steps p.tables e below (T1.setTop (mkF m 99 #[.val (.ref w_LINE_END), .val (.int vb), .val (.int va)] [])) _
    refine XS.iloadN X1.here hx rfl (hb hby d1_99) rfl ?_
    show Steps p.tables e below (T1.setTop (mkF m 100 #[.val (.ref w_LINE_END), .val (.int vb), .val (.int va)] [(.int va)])) _
    refine XS.iconst X1.here hx rfl (hb hby d1_100) ?_
    show Steps p.tables e below (T1.setTop (mkF m 101 #[.val (.ref w_LINE_END), .val (.int vb), .val (.int va)] [(.int 1), (.int va)])) _
    refine XS.icmpYes X1.here hx rfl (pc0 := 101) (pc' := 108) rfl (hb hby d1_101) rfl (feq hc101).2 (by decide) (by decide) ?_
    show Steps p.tables e below (T1.setTop (mkF m 108 #[.val (.ref w_LINE_END), .val (.int vb), .val (.int va)] [])) _
    refine XS.iconst X1.here hx rfl (hb hby d1_108) ?_
    show Steps p.tables e below (T1.setTop (mkF m 109 #[.val (.ref w_LINE_END), .val (.int vb), .val (.int va)] [(.int 0)])) _
    refine XS.goto X1.here hx rfl (pc0 := 109) (pc' := 171) rfl (hb hby d1_109) (by decide) (by decide) ?_
    show Steps p.tables e below (T1.setTop (mkF m 171 #[.val (.ref w_LINE_END), .val (.int vb), .val (.int va)] [(.int 0)])) _
    exact retN X1 hx (t := .boolean) Bd.returns (by simp) (hb hby d1_171) hr
  · show Q1_w_LINE_END_vb_va_rft Z w_LINE_END vb va h0 n0 _ T1.heap _
    rw [e1]
    exact ⟨rfl, N1, rfl⟩
def Q0_k3ft (Z : State) (p1 : Int32) (p2 : Int32) (p3 : Int32) (vb : Int32) (va : Int32) (w_LINE_END : Addr) (h0 : Heap) (n0 : Nat) (v : Option Value) (h : Heap) (L : List Loc) : Prop := v = some (.int 1) ∧ Fr n0 L ∧ h = h0
set_option maxRecDepth 65536 in
set_option maxHeartbeats 40000000 in
theorem rm0_k3ft (l : Launch) (Z : State) (a0 : Array Value) (hw : ∀ d ∈ tables_1, d.before a0 Z = true) (ws : List Jvm.Cond) (p1 : Int32) (p2 : Int32) (p3 : Int32) (vb : Int32) (va : Int32) (w_LINE_END : Addr) (h0 : Heap) (n0 : Nat) (Z0 : n0 ≤ h0.size) (hk : ((p1 &&& (2147483647 : Int32)) % (6 : Int32)) = (3 : Int32)) (hvb : (p2 &&& (3 : Int32)) = vb) (hva : (p3 &&& (3 : Int32)) = va) (S_LINE_END : Sta Z h0 "com/example/termwell/termwell/core/text/RegexNode$Anchor" "LINE_END" "Lcom/example/termwell/termwell/core/text/RegexNode$Anchor;" (.ref w_LINE_END)) (he : ((((13107 : Int32).toUInt32 >>> (((vb * (4 : Int32)) + va) &&& 31).toUInt32).toInt32) &&& (1 : Int32)) = (0 : Int32)) (F_ordinal_w_LINE_END : Fld Z h0 w_LINE_END "java/lang/Enum" "ordinal" "I" (.int 3)) (E_w_LINE_END : Exa Z h0 w_LINE_END "com/example/termwell/termwell/core/text/RegexNode$Anchor") (hc96 : ¬ (va = (0 : Int32))) (hc101 : ¬ (va = (1 : Int32))) :
    MetFree l x (head1 (Jvm.Cond.code x code maxLocals ret :: ws) room_1) (fun a U => a = #[(.int p1), (.int p2), (.int p3)] ∧ Z.Warmed39 U.vm ∧ U.heap = h0) (fun _ _ _ _ _ => True) (fun _ U o U' => ∃ v L, o = .returned v ∧ Q0_k3ft Z p1 p2 p3 vb va w_LINE_END h0 n0 v U'.heap L ∧ FrameEnd U o U' L room_1.cells room_1.slots) := by
  refine MetFree.of_bodySF (plainFor_of_name pn_0) hisR ?_
  intro p e s m args below meth c s₁ Bd hml0 hP hK
  obtain ⟨rfl, hZ, hh⟩ := hP
  have hx := Bd.exec
  have hby := Bd.bytes
  have hml : c.maxLocals = 9 := hml0
  have hown : s.vm.findClass "com/example/termwell/termwell/core/text/AnchorHoldsPinLaw" = some m.cls := findClass_of_methodNamed Bd.named
  have hnm := (name_of_methodNamed Bd.named Bd.method).1
  have X0 : Stand p l e room_1 s m #[(.int p1), (.int p2), (.int p3)] below meth c s₁ [] 0 0 := Stand.of_body Bd
  have e0 : s₁.heap = h0 := by rw [← hh, Bd.state]; rfl
  have N0 := Fr.nil n0
  have pre0 : ∀ t, Steps p.tables e below (s₁.setTop (mkF m 0 #[.val (.int p1), .val (.int p2), .val (.int p3), .unset, .unset, .unset, .unset, .unset, .unset] [])) t → Steps p.tables e below (s₁.setTop (entryFrame m #[(.int p1), (.int p2), (.int p3)] maxLocals)) t := fun t k => castTop (by first | (simp [entryFrame, mkF, argsToLocals, Value.category, maxLocals]; done) | rfl) k
  obtain ⟨T1, X1, e1, st1⟩ := getS2 X0 hx hZ hown (host := "") (Or.inl (hw _ (List.mem_of_getElem? (i := 25) rfl))) Via.refl e0 S_LINE_END (g := (mkF m 75 #[.val (.int p1), .val (.int p2), .val (.int p3), .val (.int 3), .val (.int vb), .val (.int va), .unset, .unset, .unset] [])) rfl (hb hby at_75)
  obtain ⟨cq2, kq2, q2a, q2b, q2c⟩ := isOf hZ e1 E_w_LINE_END
  obtain ⟨_, _, ⟨T2, L2, k2, n2⟩, -, X2, ⟨Lc2, hQ2, l2, y2, z2⟩, st2⟩ := X1.virtualBack hx (y := (⟨"com/example/termwell/termwell/core/text/RegexNode$Anchor", "holds", "(II)Z"⟩ : MethodName)) (z := (⟨"com/example/termwell/termwell/core/text/RegexNode$Anchor", "holds", "(II)Z"⟩ : MethodName)) hown (mvT hZ (hw _ (List.mem_of_getElem? (i := 4) rfl))) (mvT hZ (hw _ (List.mem_of_getElem? (i := 5) rfl))) (notFace_of_selects (args := #[]) (mvT hZ (hw _ (List.mem_of_getElem? (i := 7) rfl)))) (mvT hZ (hw _ (List.mem_of_getElem? (i := 7) rfl))) (mvT hZ (hw _ (List.mem_of_getElem? (i := 6) rfl))) (by decide) (backOf (W := 0) (rm1_w_LINE_END_vb_va_rft l Z a0 hw [] w_LINE_END vb va h0 n0 Z0 F_ordinal_w_LINE_END E_w_LINE_END hc96 hc101) hZ (hw _ (List.mem_of_getElem? (i := 8) rfl)) (hw _ (List.mem_of_getElem? (i := 2) rfl)) (by decide) (by decide)) q2a q2c (g := (mkF m 143 #[.val (.int p1), .val (.int p2), .val (.int p3), .val (.int 3), .val (.int vb), .val (.int va), .val (.ref w_LINE_END), .val (.int 13107), .val (.int 0)] [(.int va), (.int vb), (.ref w_LINE_END)])) rfl (by rw [hml]; rfl) (Steps.refl _) (argsL := [(.int vb), (.int va)]) (rest := []) (lenOf pd__II_Z rfl) rfl (by show 2 * 0 + _ ≤ _; exact Nat.le_of_eq rfl) (hb hby at_143) (fun _ _ => ⟨rfl, e1, (by decide : 0 + 0 ≤ _), (by decide : 0 + 0 ≤ _)⟩)
  dsimp only [Pt.U, Pt.locs, Pt.cells, Pt.slots] at X2 l2 y2 z2 st2 hQ2
  subst l2 y2 z2
  obtain ⟨rfl, N2q, e2⟩ := hQ2
  have N2 := Fr.app N0 N2q
  obtain ⟨fs, hr, hrun, hended, hW, hsame⟩ := X2.leave (v := some (.int 1)) (fun h => by rw [Bd.returns] at h; cases h)
  refine ⟨_, _, pre0 _ ?_, hrun, hended, _, _, rfl, ?_, ⟨_, rfl⟩, hW, hsame.mono (by decide) (by decide)⟩
  · show Steps p.tables e below (s₁.setTop (mkF m 0 #[.val (.int p1), .val (.int p2), .val (.int p3), .unset, .unset, .unset, .unset, .unset, .unset] [])) _
    refine XS.iloadN X0.here hx rfl (hb hby at_0) rfl ?_
    show Steps p.tables e below (s₁.setTop (mkF m 1 #[.val (.int p1), .val (.int p2), .val (.int p3), .unset, .unset, .unset, .unset, .unset, .unset] [(.int p1)])) _
    refine X0.ldcInt hx hown (mvT hZ (hw _ (List.mem_of_getElem? (i := 0) rfl))) (g := (mkF m 1 #[.val (.int p1), .val (.int p2), .val (.int p3), .unset, .unset, .unset, .unset, .unset, .unset] [(.int p1)])) rfl (hb hby at_1) _ ?_
    show Steps p.tables e below (s₁.setTop (mkF m 3 #[.val (.int p1), .val (.int p2), .val (.int p3), .unset, .unset, .unset, .unset, .unset, .unset] [(.int 2147483647), (.int p1)])) _
    refine XS.iand X0.here hx rfl (hb hby at_3) rfl ?_
    show Steps p.tables e below (s₁.setTop (mkF m 4 #[.val (.int p1), .val (.int p2), .val (.int p3), .unset, .unset, .unset, .unset, .unset, .unset] [(.int (p1 &&& (2147483647 : Int32)))])) _
    refine XS.bipush X0.here hx rfl (hb hby at_4) ?_
    show Steps p.tables e below (s₁.setTop (mkF m 6 #[.val (.int p1), .val (.int p2), .val (.int p3), .unset, .unset, .unset, .unset, .unset, .unset] [(.int 6), (.int (p1 &&& (2147483647 : Int32)))])) _
    refine iremM X0 hx rfl (hb hby at_6) rfl (by decide) ?_
    show Steps p.tables e below (s₁.setTop (mkF m 7 #[.val (.int p1), .val (.int p2), .val (.int p3), .unset, .unset, .unset, .unset, .unset, .unset] [(.int ((p1 &&& (2147483647 : Int32)) % (6 : Int32)))])) _
    rw [hk]
    show Steps p.tables e below (s₁.setTop (mkF m 7 #[.val (.int p1), .val (.int p2), .val (.int p3), .unset, .unset, .unset, .unset, .unset, .unset] [(.int 3)])) _
    refine XS.istoreN X0.here hx rfl (hb hby at_7) rfl (l' := #[.val (.int p1), .val (.int p2), .val (.int p3), .val (.int 3), .unset, .unset, .unset, .unset, .unset]) rfl ?_
    show Steps p.tables e below (s₁.setTop (mkF m 8 #[.val (.int p1), .val (.int p2), .val (.int p3), .val (.int 3), .unset, .unset, .unset, .unset, .unset] [])) _
    refine XS.iloadN X0.here hx rfl (hb hby at_8) rfl ?_
    show Steps p.tables e below (s₁.setTop (mkF m 9 #[.val (.int p1), .val (.int p2), .val (.int p3), .val (.int 3), .unset, .unset, .unset, .unset, .unset] [(.int p2)])) _
    refine XS.iconst X0.here hx rfl (hb hby at_9) ?_
    show Steps p.tables e below (s₁.setTop (mkF m 10 #[.val (.int p1), .val (.int p2), .val (.int p3), .val (.int 3), .unset, .unset, .unset, .unset, .unset] [(.int 3), (.int p2)])) _
    refine XS.iand X0.here hx rfl (hb hby at_10) rfl ?_
    show Steps p.tables e below (s₁.setTop (mkF m 11 #[.val (.int p1), .val (.int p2), .val (.int p3), .val (.int 3), .unset, .unset, .unset, .unset, .unset] [(.int (p2 &&& (3 : Int32)))])) _
    rw [hvb]
    show Steps p.tables e below (s₁.setTop (mkF m 11 #[.val (.int p1), .val (.int p2), .val (.int p3), .val (.int 3), .unset, .unset, .unset, .unset, .unset] [(.int vb)])) _
    refine XS.istore X0.here hx rfl (hb hby at_11) rfl (l' := #[.val (.int p1), .val (.int p2), .val (.int p3), .val (.int 3), .val (.int vb), .unset, .unset, .unset, .unset]) rfl ?_
    show Steps p.tables e below (s₁.setTop (mkF m 13 #[.val (.int p1), .val (.int p2), .val (.int p3), .val (.int 3), .val (.int vb), .unset, .unset, .unset, .unset] [])) _
    refine XS.iloadN X0.here hx rfl (hb hby at_13) rfl ?_
    show Steps p.tables e below (s₁.setTop (mkF m 14 #[.val (.int p1), .val (.int p2), .val (.int p3), .val (.int 3), .val (.int vb), .unset, .unset, .unset, .unset] [(.int p3)])) _
    refine XS.iconst X0.here hx rfl (hb hby at_14) ?_
    show Steps p.tables e below (s₁.setTop (mkF m 15 #[.val (.int p1), .val (.int p2), .val (.int p3), .val (.int 3), .val (.int vb), .unset, .unset, .unset, .unset] [(.int 3), (.int p3)])) _
    refine XS.iand X0.here hx rfl (hb hby at_15) rfl ?_
    show Steps p.tables e below (s₁.setTop (mkF m 16 #[.val (.int p1), .val (.int p2), .val (.int p3), .val (.int 3), .val (.int vb), .unset, .unset, .unset, .unset] [(.int (p3 &&& (3 : Int32)))])) _
    rw [hva]
    show Steps p.tables e below (s₁.setTop (mkF m 16 #[.val (.int p1), .val (.int p2), .val (.int p3), .val (.int 3), .val (.int vb), .unset, .unset, .unset, .unset] [(.int va)])) _
    refine XS.istore X0.here hx rfl (hb hby at_16) rfl (l' := #[.val (.int p1), .val (.int p2), .val (.int p3), .val (.int 3), .val (.int vb), .val (.int va), .unset, .unset, .unset]) rfl ?_
    show Steps p.tables e below (s₁.setTop (mkF m 18 #[.val (.int p1), .val (.int p2), .val (.int p3), .val (.int 3), .val (.int vb), .val (.int va), .unset, .unset, .unset] [])) _
    refine XS.iloadN X0.here hx rfl (hb hby at_18) rfl ?_
    show Steps p.tables e below (s₁.setTop (mkF m 19 #[.val (.int p1), .val (.int p2), .val (.int p3), .val (.int 3), .val (.int vb), .val (.int va), .unset, .unset, .unset] [(.int 3)])) _
    refine XS.ifYes X0.here hx rfl (pc0 := 19) (pc' := 34) rfl (hb hby at_19) rfl ((if0 _ _).trans (feq (by decide : ¬ ((3 : Int32) = (0 : Int32)))).2) (by decide) (by decide) ?_
    show Steps p.tables e below (s₁.setTop (mkF m 34 #[.val (.int p1), .val (.int p2), .val (.int p3), .val (.int 3), .val (.int vb), .val (.int va), .unset, .unset, .unset] [])) _
    refine XS.iloadN X0.here hx rfl (hb hby at_34) rfl ?_
    show Steps p.tables e below (s₁.setTop (mkF m 35 #[.val (.int p1), .val (.int p2), .val (.int p3), .val (.int 3), .val (.int vb), .val (.int va), .unset, .unset, .unset] [(.int 3)])) _
    refine XS.iconst X0.here hx rfl (hb hby at_35) ?_
    show Steps p.tables e below (s₁.setTop (mkF m 36 #[.val (.int p1), .val (.int p2), .val (.int p3), .val (.int 3), .val (.int vb), .val (.int va), .unset, .unset, .unset] [(.int 1), (.int 3)])) _
    refine XS.icmpYes X0.here hx rfl (pc0 := 36) (pc' := 52) rfl (hb hby at_36) rfl (feq (by decide : ¬ ((3 : Int32) = (1 : Int32)))).2 (by decide) (by decide) ?_
    show Steps p.tables e below (s₁.setTop (mkF m 52 #[.val (.int p1), .val (.int p2), .val (.int p3), .val (.int 3), .val (.int vb), .val (.int va), .unset, .unset, .unset] [])) _
    refine XS.iloadN X0.here hx rfl (hb hby at_52) rfl ?_
    show Steps p.tables e below (s₁.setTop (mkF m 53 #[.val (.int p1), .val (.int p2), .val (.int p3), .val (.int 3), .val (.int vb), .val (.int va), .unset, .unset, .unset] [(.int 3)])) _
    refine XS.iconst X0.here hx rfl (hb hby at_53) ?_
    show Steps p.tables e below (s₁.setTop (mkF m 54 #[.val (.int p1), .val (.int p2), .val (.int p3), .val (.int 3), .val (.int vb), .val (.int va), .unset, .unset, .unset] [(.int 2), (.int 3)])) _
    refine XS.icmpYes X0.here hx rfl (pc0 := 54) (pc' := 70) rfl (hb hby at_54) rfl (feq (by decide : ¬ ((3 : Int32) = (2 : Int32)))).2 (by decide) (by decide) ?_
    show Steps p.tables e below (s₁.setTop (mkF m 70 #[.val (.int p1), .val (.int p2), .val (.int p3), .val (.int 3), .val (.int vb), .val (.int va), .unset, .unset, .unset] [])) _
    refine XS.iloadN X0.here hx rfl (hb hby at_70) rfl ?_
    show Steps p.tables e below (s₁.setTop (mkF m 71 #[.val (.int p1), .val (.int p2), .val (.int p3), .val (.int 3), .val (.int vb), .val (.int va), .unset, .unset, .unset] [(.int 3)])) _
    refine XS.iconst X0.here hx rfl (hb hby at_71) ?_
    show Steps p.tables e below (s₁.setTop (mkF m 72 #[.val (.int p1), .val (.int p2), .val (.int p3), .val (.int 3), .val (.int vb), .val (.int va), .unset, .unset, .unset] [(.int 3), (.int 3)])) _
    refine XS.icmpNo X0.here hx rfl (hb hby at_72) rfl (teq (by decide : (3 : Int32) = (3 : Int32))).2 ?_
    show Steps p.tables e below (s₁.setTop (mkF m 75 #[.val (.int p1), .val (.int p2), .val (.int p3), .val (.int 3), .val (.int vb), .val (.int va), .unset, .unset, .unset] [])) _
    refine st1 _ ?_
    show Steps p.tables e below (T1.setTop (mkF m 78 #[.val (.int p1), .val (.int p2), .val (.int p3), .val (.int 3), .val (.int vb), .val (.int va), .unset, .unset, .unset] [(.ref w_LINE_END)])) _
    refine XS.astore X1.here hx rfl (hb hby at_78) rfl rfl (l' := #[.val (.int p1), .val (.int p2), .val (.int p3), .val (.int 3), .val (.int vb), .val (.int va), .val (.ref w_LINE_END), .unset, .unset]) rfl ?_
    show Steps p.tables e below (T1.setTop (mkF m 80 #[.val (.int p1), .val (.int p2), .val (.int p3), .val (.int 3), .val (.int vb), .val (.int va), .val (.ref w_LINE_END), .unset, .unset] [])) _
    refine XS.sipush X1.here hx rfl (hb hby at_80) ?_
    show Steps p.tables e below (T1.setTop (mkF m 83 #[.val (.int p1), .val (.int p2), .val (.int p3), .val (.int 3), .val (.int vb), .val (.int va), .val (.ref w_LINE_END), .unset, .unset] [(.int 13107)])) _
    refine XS.istore X1.here hx rfl (hb hby at_83) rfl (l' := #[.val (.int p1), .val (.int p2), .val (.int p3), .val (.int 3), .val (.int vb), .val (.int va), .val (.ref w_LINE_END), .val (.int 13107), .unset]) rfl ?_
    show Steps p.tables e below (T1.setTop (mkF m 85 #[.val (.int p1), .val (.int p2), .val (.int p3), .val (.int 3), .val (.int vb), .val (.int va), .val (.ref w_LINE_END), .val (.int 13107), .unset] [])) _
    refine XS.goto X1.here hx rfl (pc0 := 85) (pc' := 115) rfl (hb hby at_85) (by decide) (by decide) ?_
    show Steps p.tables e below (T1.setTop (mkF m 115 #[.val (.int p1), .val (.int p2), .val (.int p3), .val (.int 3), .val (.int vb), .val (.int va), .val (.ref w_LINE_END), .val (.int 13107), .unset] [])) _
    refine XS.iload X1.here hx rfl (hb hby at_115) rfl ?_
    show Steps p.tables e below (T1.setTop (mkF m 117 #[.val (.int p1), .val (.int p2), .val (.int p3), .val (.int 3), .val (.int vb), .val (.int va), .val (.ref w_LINE_END), .val (.int 13107), .unset] [(.int 13107)])) _
    refine XS.iload X1.here hx rfl (hb hby at_117) rfl ?_
    show Steps p.tables e below (T1.setTop (mkF m 119 #[.val (.int p1), .val (.int p2), .val (.int p3), .val (.int 3), .val (.int vb), .val (.int va), .val (.ref w_LINE_END), .val (.int 13107), .unset] [(.int vb), (.int 13107)])) _
    refine XS.iconst X1.here hx rfl (hb hby at_119) ?_
    show Steps p.tables e below (T1.setTop (mkF m 120 #[.val (.int p1), .val (.int p2), .val (.int p3), .val (.int 3), .val (.int vb), .val (.int va), .val (.ref w_LINE_END), .val (.int 13107), .unset] [(.int 4), (.int vb), (.int 13107)])) _
    refine XS.imul X1.here hx rfl (hb hby at_120) rfl ?_
    show Steps p.tables e below (T1.setTop (mkF m 121 #[.val (.int p1), .val (.int p2), .val (.int p3), .val (.int 3), .val (.int vb), .val (.int va), .val (.ref w_LINE_END), .val (.int 13107), .unset] [(.int (vb * (4 : Int32))), (.int 13107)])) _
    refine XS.iload X1.here hx rfl (hb hby at_121) rfl ?_
    show Steps p.tables e below (T1.setTop (mkF m 123 #[.val (.int p1), .val (.int p2), .val (.int p3), .val (.int 3), .val (.int vb), .val (.int va), .val (.ref w_LINE_END), .val (.int 13107), .unset] [(.int va), (.int (vb * (4 : Int32))), (.int 13107)])) _
    refine XS.iadd X1.here hx rfl (hb hby at_123) rfl ?_
    show Steps p.tables e below (T1.setTop (mkF m 124 #[.val (.int p1), .val (.int p2), .val (.int p3), .val (.int 3), .val (.int vb), .val (.int va), .val (.ref w_LINE_END), .val (.int 13107), .unset] [(.int ((vb * (4 : Int32)) + va)), (.int 13107)])) _
    refine XS.iushr X1.here hx rfl (hb hby at_124) rfl ?_
    show Steps p.tables e below (T1.setTop (mkF m 125 #[.val (.int p1), .val (.int p2), .val (.int p3), .val (.int 3), .val (.int vb), .val (.int va), .val (.ref w_LINE_END), .val (.int 13107), .unset] [(.int (((13107 : Int32).toUInt32 >>> (((vb * (4 : Int32)) + va) &&& 31).toUInt32).toInt32))])) _
    refine XS.iconst X1.here hx rfl (hb hby at_125) ?_
    show Steps p.tables e below (T1.setTop (mkF m 126 #[.val (.int p1), .val (.int p2), .val (.int p3), .val (.int 3), .val (.int vb), .val (.int va), .val (.ref w_LINE_END), .val (.int 13107), .unset] [(.int 1), (.int (((13107 : Int32).toUInt32 >>> (((vb * (4 : Int32)) + va) &&& 31).toUInt32).toInt32))])) _
    refine XS.iand X1.here hx rfl (hb hby at_126) rfl ?_
    show Steps p.tables e below (T1.setTop (mkF m 127 #[.val (.int p1), .val (.int p2), .val (.int p3), .val (.int 3), .val (.int vb), .val (.int va), .val (.ref w_LINE_END), .val (.int 13107), .unset] [(.int ((((13107 : Int32).toUInt32 >>> (((vb * (4 : Int32)) + va) &&& 31).toUInt32).toInt32) &&& (1 : Int32)))])) _
    rw [he]
    show Steps p.tables e below (T1.setTop (mkF m 127 #[.val (.int p1), .val (.int p2), .val (.int p3), .val (.int 3), .val (.int vb), .val (.int va), .val (.ref w_LINE_END), .val (.int 13107), .unset] [(.int 0)])) _
    refine XS.ifYes X1.here hx rfl (pc0 := 127) (pc' := 134) rfl (hb hby at_127) rfl ((if0 _ _).trans (teq (by decide : (0 : Int32) = (0 : Int32))).1) (by decide) (by decide) ?_
    show Steps p.tables e below (T1.setTop (mkF m 134 #[.val (.int p1), .val (.int p2), .val (.int p3), .val (.int 3), .val (.int vb), .val (.int va), .val (.ref w_LINE_END), .val (.int 13107), .unset] [])) _
    refine XS.iconst X1.here hx rfl (hb hby at_134) ?_
    show Steps p.tables e below (T1.setTop (mkF m 135 #[.val (.int p1), .val (.int p2), .val (.int p3), .val (.int 3), .val (.int vb), .val (.int va), .val (.ref w_LINE_END), .val (.int 13107), .unset] [(.int 0)])) _
    refine XS.istore X1.here hx rfl (hb hby at_135) rfl (l' := #[.val (.int p1), .val (.int p2), .val (.int p3), .val (.int 3), .val (.int vb), .val (.int va), .val (.ref w_LINE_END), .val (.int 13107), .val (.int 0)]) rfl ?_
    show Steps p.tables e below (T1.setTop (mkF m 137 #[.val (.int p1), .val (.int p2), .val (.int p3), .val (.int 3), .val (.int vb), .val (.int va), .val (.ref w_LINE_END), .val (.int 13107), .val (.int 0)] [])) _
    refine XS.aload X1.here hx rfl (hb hby at_137) rfl rfl ?_
    show Steps p.tables e below (T1.setTop (mkF m 139 #[.val (.int p1), .val (.int p2), .val (.int p3), .val (.int 3), .val (.int vb), .val (.int va), .val (.ref w_LINE_END), .val (.int 13107), .val (.int 0)] [(.ref w_LINE_END)])) _
    refine XS.iload X1.here hx rfl (hb hby at_139) rfl ?_
    show Steps p.tables e below (T1.setTop (mkF m 141 #[.val (.int p1), .val (.int p2), .val (.int p3), .val (.int 3), .val (.int vb), .val (.int va), .val (.ref w_LINE_END), .val (.int 13107), .val (.int 0)] [(.int vb), (.ref w_LINE_END)])) _
    refine XS.iload X1.here hx rfl (hb hby at_141) rfl ?_
    show Steps p.tables e below (T1.setTop (mkF m 143 #[.val (.int p1), .val (.int p2), .val (.int p3), .val (.int 3), .val (.int vb), .val (.int va), .val (.ref w_LINE_END), .val (.int 13107), .val (.int 0)] [(.int va), (.int vb), (.ref w_LINE_END)])) _
    refine st2.trans ?_
    show Steps p.tables e below (T2.setTop (mkF m 146 #[.val (.int p1), .val (.int p2), .val (.int p3), .val (.int 3), .val (.int vb), .val (.int va), .val (.ref w_LINE_END), .val (.int 13107), .val (.int 0)] [(.int 0)])) _
    refine XS.iload X2.here hx rfl (hb hby at_146) rfl ?_
    show Steps p.tables e below (T2.setTop (mkF m 148 #[.val (.int p1), .val (.int p2), .val (.int p3), .val (.int 3), .val (.int vb), .val (.int va), .val (.ref w_LINE_END), .val (.int 13107), .val (.int 0)] [(.int 0), (.int 0)])) _
    refine XS.icmpNo X2.here hx rfl (hb hby at_148) rfl (teq (by decide : (0 : Int32) = (0 : Int32))).2 ?_
    show Steps p.tables e below (T2.setTop (mkF m 151 #[.val (.int p1), .val (.int p2), .val (.int p3), .val (.int 3), .val (.int vb), .val (.int va), .val (.ref w_LINE_END), .val (.int 13107), .val (.int 0)] [])) _
    refine XS.iconst X2.here hx rfl (hb hby at_151) ?_
    show Steps p.tables e below (T2.setTop (mkF m 152 #[.val (.int p1), .val (.int p2), .val (.int p3), .val (.int 3), .val (.int vb), .val (.int va), .val (.ref w_LINE_END), .val (.int 13107), .val (.int 0)] [(.int 1)])) _
    refine XS.goto X2.here hx rfl (pc0 := 152) (pc' := 156) rfl (hb hby at_152) (by decide) (by decide) ?_
    show Steps p.tables e below (T2.setTop (mkF m 156 #[.val (.int p1), .val (.int p2), .val (.int p3), .val (.int 3), .val (.int vb), .val (.int va), .val (.ref w_LINE_END), .val (.int 13107), .val (.int 0)] [(.int 1)])) _
    exact retN X2 hx (t := .boolean) Bd.returns (by simp) (hb hby at_156) hr
  · show Q0_k3ft Z p1 p2 p3 vb va w_LINE_END h0 n0 _ T2.heap _
    rw [e2]
    exact ⟨rfl, N2, rfl⟩
def Q2_w_WORD_BOUNDARY (Z : State) (w_WORD_BOUNDARY : Addr) (h0 : Heap) (n0 : Nat) (v : Option Value) (h : Heap) (L : List Loc) : Prop := v = some (.int 4) ∧ Fr n0 L ∧ h = h0
set_option maxRecDepth 65536 in
set_option maxHeartbeats 40000000 in
theorem rm2_w_WORD_BOUNDARY (l : Launch) (Z : State) (a0 : Array Value) (hw : ∀ d ∈ tables_1, d.before a0 Z = true) (ws : List Jvm.Cond) (w_WORD_BOUNDARY : Addr) (h0 : Heap) (n0 : Nat) (Z0 : n0 ≤ h0.size) (F_ordinal_w_WORD_BOUNDARY : Fld Z h0 w_WORD_BOUNDARY "java/lang/Enum" "ordinal" "I" (.int 4)) :
    MetFree l (⟨"java/lang/Enum", "ordinal", "()I"⟩ : MethodName) (head1 (Jvm.Cond.code (⟨"java/lang/Enum", "ordinal", "()I"⟩ : MethodName) jdk_37_method_2_code 1 (some .int) :: ws) ({ frames := 0, cells := 0, slots := 0, locals := 0 } : Room)) (fun a U => a = #[(.ref w_WORD_BOUNDARY)] ∧ Z.Warmed39 U.vm ∧ U.heap = h0) (fun _ _ _ _ _ => True) (fun _ U o U' => ∃ v L, o = .returned v ∧ Q2_w_WORD_BOUNDARY Z w_WORD_BOUNDARY h0 n0 v U'.heap L ∧ FrameEnd U o U' L ({ frames := 0, cells := 0, slots := 0, locals := 0 } : Room).cells ({ frames := 0, cells := 0, slots := 0, locals := 0 } : Room).slots) := by
  refine MetFree.of_bodySF (plainFor_of_name pn_2) hisR ?_
  intro p e s m args below meth c s₁ Bd hml0 hP hK
  obtain ⟨rfl, hZ, hh⟩ := hP
  have hx := Bd.exec
  have hby := Bd.bytes
  have hml : c.maxLocals = 1 := hml0
  have hown : s.vm.findClass "java/lang/Enum" = some m.cls := findClass_of_methodNamed Bd.named
  have hnm := (name_of_methodNamed Bd.named Bd.method).1
  have X0 : Stand p l e ({ frames := 0, cells := 0, slots := 0, locals := 0 } : Room) s m #[(.ref w_WORD_BOUNDARY)] below meth c s₁ [] 0 0 := Stand.of_body Bd
  have e0 : s₁.heap = h0 := by rw [← hh, Bd.state]; rfl
  have N0 := Fr.nil n0
  have pre0 : ∀ t, Steps p.tables e below (s₁.setTop (mkF m 0 #[.val (.ref w_WORD_BOUNDARY)] [])) t → Steps p.tables e below (s₁.setTop (entryFrame m #[(.ref w_WORD_BOUNDARY)] 1)) t := fun t k => castTop (by first | (simp [entryFrame, mkF, argsToLocals, Value.category]; done) | rfl) k
  obtain ⟨T1, X1, e1, st1⟩ := getF X0 hx hZ hown (host := "") (Or.inl (hw _ (List.mem_of_getElem? (i := 16) rfl))) Via.refl e0 F_ordinal_w_WORD_BOUNDARY (g := (mkF m 1 #[.val (.ref w_WORD_BOUNDARY)] [(.ref w_WORD_BOUNDARY)])) rfl rfl (hb hby d2_1)
  obtain ⟨fs, hr, hrun, hended, hW, hsame⟩ := X1.leave (v := some (.int 4)) (fun h => by rw [Bd.returns] at h; cases h)
  refine ⟨_, _, pre0 _ ?_, hrun, hended, _, _, rfl, ?_, ⟨_, rfl⟩, hW, hsame.mono (by decide) (by decide)⟩
  · show Steps p.tables e below (s₁.setTop (mkF m 0 #[.val (.ref w_WORD_BOUNDARY)] [])) _
    refine XS.aloadN X0.here hx rfl (hb hby d2_0) rfl rfl ?_
    show Steps p.tables e below (s₁.setTop (mkF m 1 #[.val (.ref w_WORD_BOUNDARY)] [(.ref w_WORD_BOUNDARY)])) _
    refine st1 _ ?_
    show Steps p.tables e below (T1.setTop (mkF m 4 #[.val (.ref w_WORD_BOUNDARY)] [(.int 4)])) _
    exact retI X1 hx Bd.returns (hb hby d2_4) hr
  · show Q2_w_WORD_BOUNDARY Z w_WORD_BOUNDARY h0 n0 _ T1.heap _
    rw [e1]
    exact ⟨rfl, N0, rfl⟩
def Q1_w_WORD_BOUNDARY_vb_va_rff (Z : State) (w_WORD_BOUNDARY : Addr) (vb : Int32) (va : Int32) (h0 : Heap) (n0 : Nat) (v : Option Value) (h : Heap) (L : List Loc) : Prop := v = some (.int 0) ∧ Fr n0 L ∧ h = h0
set_option maxRecDepth 65536 in
set_option maxHeartbeats 40000000 in
theorem rm1_w_WORD_BOUNDARY_vb_va_rff (l : Launch) (Z : State) (a0 : Array Value) (hw : ∀ d ∈ tables_1, d.before a0 Z = true) (ws : List Jvm.Cond) (w_WORD_BOUNDARY : Addr) (vb : Int32) (va : Int32) (h0 : Heap) (n0 : Nat) (Z0 : n0 ≤ h0.size) (F_ordinal_w_WORD_BOUNDARY : Fld Z h0 w_WORD_BOUNDARY "java/lang/Enum" "ordinal" "I" (.int 4)) (E_w_WORD_BOUNDARY : Exa Z h0 w_WORD_BOUNDARY "com/example/termwell/termwell/core/text/RegexNode$Anchor") (hc114 : vb = (2 : Int32)) (hc124 : va = (2 : Int32)) :
    MetFree l (⟨"com/example/termwell/termwell/core/text/RegexNode$Anchor", "holds", "(II)Z"⟩ : MethodName) (head1 (Jvm.Cond.code (⟨"com/example/termwell/termwell/core/text/RegexNode$Anchor", "holds", "(II)Z"⟩ : MethodName) prog_28_method_5_code 3 (some .boolean) :: ws) ({ frames := 1, cells := 0, slots := 0, locals := 12 } : Room)) (fun a U => a = #[(.ref w_WORD_BOUNDARY), (.int vb), (.int va)] ∧ Z.Warmed39 U.vm ∧ U.heap = h0) (fun _ _ _ _ _ => True) (fun _ U o U' => ∃ v L, o = .returned v ∧ Q1_w_WORD_BOUNDARY_vb_va_rff Z w_WORD_BOUNDARY vb va h0 n0 v U'.heap L ∧ FrameEnd U o U' L ({ frames := 1, cells := 0, slots := 0, locals := 12 } : Room).cells ({ frames := 1, cells := 0, slots := 0, locals := 12 } : Room).slots) := by
  refine MetFree.of_bodySF (plainFor_of_name pn_1) hisR ?_
  intro p e s m args below meth c s₁ Bd hml0 hP hK
  obtain ⟨rfl, hZ, hh⟩ := hP
  have hx := Bd.exec
  have hby := Bd.bytes
  have hml : c.maxLocals = 3 := hml0
  have hown : s.vm.findClass "com/example/termwell/termwell/core/text/RegexNode$Anchor" = some m.cls := findClass_of_methodNamed Bd.named
  have hnm := (name_of_methodNamed Bd.named Bd.method).1
  have X0 : Stand p l e ({ frames := 1, cells := 0, slots := 0, locals := 12 } : Room) s m #[(.ref w_WORD_BOUNDARY), (.int vb), (.int va)] below meth c s₁ [] 0 0 := Stand.of_body Bd
  have e0 : s₁.heap = h0 := by rw [← hh, Bd.state]; rfl
  have N0 := Fr.nil n0
  have pre0 : ∀ t, Steps p.tables e below (s₁.setTop (mkF m 0 #[.val (.ref w_WORD_BOUNDARY), .val (.int vb), .val (.int va)] [])) t → Steps p.tables e below (s₁.setTop (entryFrame m #[(.ref w_WORD_BOUNDARY), (.int vb), (.int va)] 3)) t := fun t k => castTop (by first | (simp [entryFrame, mkF, argsToLocals, Value.category]; done) | rfl) k
  obtain ⟨cq1, kq1, q1a, q1b, q1c⟩ := isOf hZ e0 E_w_WORD_BOUNDARY
  obtain ⟨_, _, ⟨T1, L1, k1, n1⟩, -, X1, ⟨Lc1, hQ1, l1, y1, z1⟩, st1⟩ := X0.virtualBackUp hx (x := (⟨"com/example/termwell/termwell/core/text/RegexNode$Anchor", "ordinal", "()I"⟩ : MethodName)) (y := (⟨"java/lang/Enum", "ordinal", "()I"⟩ : MethodName)) (owner := "java/lang/Enum") hown (mvT hZ (hw _ (List.mem_of_getElem? (i := 9) rfl))) (mvT hZ (hw _ (List.mem_of_getElem? (i := 10) rfl))) (mvT hZ (hw _ (List.mem_of_getElem? (i := 11) rfl))) (by decide) (mvT hZ (hw _ (List.mem_of_getElem? (i := 13) rfl))) (mvT hZ (hw _ (List.mem_of_getElem? (i := 12) rfl))) (backOf (W := 0) (rm2_w_WORD_BOUNDARY l Z a0 hw [] w_WORD_BOUNDARY h0 n0 Z0 F_ordinal_w_WORD_BOUNDARY) hZ (hw _ (List.mem_of_getElem? (i := 15) rfl)) (hw _ (List.mem_of_getElem? (i := 14) rfl)) (by decide) (by decide)) q1a q1c (g := (mkF m 1 #[.val (.ref w_WORD_BOUNDARY), .val (.int vb), .val (.int va)] [(.ref w_WORD_BOUNDARY)])) rfl (by rw [hml]; rfl) (Steps.refl _) (argsL := []) (rest := []) (lenOf pd___I rfl) rfl (by show 2 * 0 + _ ≤ _; exact Nat.le_of_eq rfl) (hb hby d1_1) (fun _ _ => ⟨rfl, e0, (by decide : 0 + 0 ≤ _), (by decide : 0 + 0 ≤ _)⟩)
  dsimp only [Pt.U, Pt.locs, Pt.cells, Pt.slots] at X1 l1 y1 z1 st1 hQ1
  subst l1 y1 z1
  obtain ⟨rfl, N1q, e1⟩ := hQ1
  have N1 := Fr.app N0 N1q
  obtain ⟨fs, hr, hrun, hended, hW, hsame⟩ := X1.leave (v := some (.int 0)) (fun h => by rw [Bd.returns] at h; cases h)
  refine ⟨_, _, pre0 _ ?_, hrun, hended, _, _, rfl, ?_, ⟨_, rfl⟩, hW, hsame.mono (by decide) (by decide)⟩
  · show Steps p.tables e below (s₁.setTop (mkF m 0 #[.val (.ref w_WORD_BOUNDARY), .val (.int vb), .val (.int va)] [])) _
    refine XS.aloadN X0.here hx rfl (hb hby d1_0) rfl rfl ?_
    show Steps p.tables e below (s₁.setTop (mkF m 1 #[.val (.ref w_WORD_BOUNDARY), .val (.int vb), .val (.int va)] [(.ref w_WORD_BOUNDARY)])) _
    refine st1.trans ?_
    show Steps p.tables e below (T1.setTop (mkF m 4 #[.val (.ref w_WORD_BOUNDARY), .val (.int vb), .val (.int va)] [(.int 4)])) _
    refine XS.tswIn X1.here hx rfl (pc0 := 4) (pc' := 112) rfl (hb hby d1_4) rfl (by decide) (o := 108) (by decide) (by decide) (by decide) ?_
    show Steps p.tables e below (T1.setTop (mkF m 112 #[.val (.ref w_WORD_BOUNDARY), .val (.int vb), .val (.int va)] [])) _
    refine XS.iloadN X1.here hx rfl (hb hby d1_112) rfl ?_
    show Steps p.tables e below (T1.setTop (mkF m 113 #[.val (.ref w_WORD_BOUNDARY), .val (.int vb), .val (.int va)] [(.int vb)])) _
    refine XS.iconst X1.here hx rfl (hb hby d1_113) ?_
    show Steps p.tables e below (T1.setTop (mkF m 114 #[.val (.ref w_WORD_BOUNDARY), .val (.int vb), .val (.int va)] [(.int 2), (.int vb)])) _
    refine XS.icmpNo X1.here hx rfl (hb hby d1_114) rfl (teq hc114).2 ?_
    show Steps p.tables e below (T1.setTop (mkF m 117 #[.val (.ref w_WORD_BOUNDARY), .val (.int vb), .val (.int va)] [])) _
    refine XS.iconst X1.here hx rfl (hb hby d1_117) ?_
    show Steps p.tables e below (T1.setTop (mkF m 118 #[.val (.ref w_WORD_BOUNDARY), .val (.int vb), .val (.int va)] [(.int 1)])) _
    refine XS.goto X1.here hx rfl (pc0 := 118) (pc' := 122) rfl (hb hby d1_118) (by decide) (by decide) ?_
    show Steps p.tables e below (T1.setTop (mkF m 122 #[.val (.ref w_WORD_BOUNDARY), .val (.int vb), .val (.int va)] [(.int 1)])) _
    refine XS.iloadN X1.here hx rfl (hb hby d1_122) rfl ?_
    show Steps p.tables e below (T1.setTop (mkF m 123 #[.val (.ref w_WORD_BOUNDARY), .val (.int vb), .val (.int va)] [(.int va), (.int 1)])) _
    refine XS.iconst X1.here hx rfl (hb hby d1_123) ?_
    show Steps p.tables e below (T1.setTop (mkF m 124 #[.val (.ref w_WORD_BOUNDARY), .val (.int vb), .val (.int va)] [(.int 2), (.int va), (.int 1)])) _
    refine XS.icmpNo X1.here hx rfl (hb hby d1_124) rfl (teq hc124).2 ?_
    show Steps p.tables e below (T1.setTop (mkF m 127 #[.val (.ref w_WORD_BOUNDARY), .val (.int vb), .val (.int va)] [(.int 1)])) _
    refine XS.iconst X1.here hx rfl (hb hby d1_127) ?_
    show Steps p.tables e below (T1.setTop (mkF m 128 #[.val (.ref w_WORD_BOUNDARY), .val (.int vb), .val (.int va)] [(.int 1), (.int 1)])) _
    refine XS.goto X1.here hx rfl (pc0 := 128) (pc' := 132) rfl (hb hby d1_128) (by decide) (by decide) ?_
    show Steps p.tables e below (T1.setTop (mkF m 132 #[.val (.ref w_WORD_BOUNDARY), .val (.int vb), .val (.int va)] [(.int 1), (.int 1)])) _
    refine XS.icmpYes X1.here hx rfl (pc0 := 132) (pc' := 139) rfl (hb hby d1_132) rfl (teq (by decide : (1 : Int32) = (1 : Int32))).1 (by decide) (by decide) ?_
    show Steps p.tables e below (T1.setTop (mkF m 139 #[.val (.ref w_WORD_BOUNDARY), .val (.int vb), .val (.int va)] [])) _
    refine XS.iconst X1.here hx rfl (hb hby d1_139) ?_
    show Steps p.tables e below (T1.setTop (mkF m 140 #[.val (.ref w_WORD_BOUNDARY), .val (.int vb), .val (.int va)] [(.int 0)])) _
    refine XS.goto X1.here hx rfl (pc0 := 140) (pc' := 171) rfl (hb hby d1_140) (by decide) (by decide) ?_
    show Steps p.tables e below (T1.setTop (mkF m 171 #[.val (.ref w_WORD_BOUNDARY), .val (.int vb), .val (.int va)] [(.int 0)])) _
    exact retN X1 hx (t := .boolean) Bd.returns (by simp) (hb hby d1_171) hr
  · show Q1_w_WORD_BOUNDARY_vb_va_rff Z w_WORD_BOUNDARY vb va h0 n0 _ T1.heap _
    rw [e1]
    exact ⟨rfl, N1, rfl⟩
def Q0_k4ff (Z : State) (p1 : Int32) (p2 : Int32) (p3 : Int32) (vb : Int32) (va : Int32) (w_WORD_BOUNDARY : Addr) (h0 : Heap) (n0 : Nat) (v : Option Value) (h : Heap) (L : List Loc) : Prop := v = some (.int 1) ∧ Fr n0 L ∧ h = h0
set_option maxRecDepth 65536 in
set_option maxHeartbeats 40000000 in
theorem rm0_k4ff (l : Launch) (Z : State) (a0 : Array Value) (hw : ∀ d ∈ tables_1, d.before a0 Z = true) (ws : List Jvm.Cond) (p1 : Int32) (p2 : Int32) (p3 : Int32) (vb : Int32) (va : Int32) (w_WORD_BOUNDARY : Addr) (h0 : Heap) (n0 : Nat) (Z0 : n0 ≤ h0.size) (hk : ((p1 &&& (2147483647 : Int32)) % (6 : Int32)) = (4 : Int32)) (hvb : (p2 &&& (3 : Int32)) = vb) (hva : (p3 &&& (3 : Int32)) = va) (S_WORD_BOUNDARY : Sta Z h0 "com/example/termwell/termwell/core/text/RegexNode$Anchor" "WORD_BOUNDARY" "Lcom/example/termwell/termwell/core/text/RegexNode$Anchor;" (.ref w_WORD_BOUNDARY)) (he : ((((19268 : Int32).toUInt32 >>> (((vb * (4 : Int32)) + va) &&& 31).toUInt32).toInt32) &&& (1 : Int32)) = (0 : Int32)) (F_ordinal_w_WORD_BOUNDARY : Fld Z h0 w_WORD_BOUNDARY "java/lang/Enum" "ordinal" "I" (.int 4)) (E_w_WORD_BOUNDARY : Exa Z h0 w_WORD_BOUNDARY "com/example/termwell/termwell/core/text/RegexNode$Anchor") (hc114 : vb = (2 : Int32)) (hc124 : va = (2 : Int32)) :
    MetFree l x (head1 (Jvm.Cond.code x code maxLocals ret :: ws) room_1) (fun a U => a = #[(.int p1), (.int p2), (.int p3)] ∧ Z.Warmed39 U.vm ∧ U.heap = h0) (fun _ _ _ _ _ => True) (fun _ U o U' => ∃ v L, o = .returned v ∧ Q0_k4ff Z p1 p2 p3 vb va w_WORD_BOUNDARY h0 n0 v U'.heap L ∧ FrameEnd U o U' L room_1.cells room_1.slots) := by
  refine MetFree.of_bodySF (plainFor_of_name pn_0) hisR ?_
  intro p e s m args below meth c s₁ Bd hml0 hP hK
  obtain ⟨rfl, hZ, hh⟩ := hP
  have hx := Bd.exec
  have hby := Bd.bytes
  have hml : c.maxLocals = 9 := hml0
  have hown : s.vm.findClass "com/example/termwell/termwell/core/text/AnchorHoldsPinLaw" = some m.cls := findClass_of_methodNamed Bd.named
  have hnm := (name_of_methodNamed Bd.named Bd.method).1
  have X0 : Stand p l e room_1 s m #[(.int p1), (.int p2), (.int p3)] below meth c s₁ [] 0 0 := Stand.of_body Bd
  have e0 : s₁.heap = h0 := by rw [← hh, Bd.state]; rfl
  have N0 := Fr.nil n0
  have pre0 : ∀ t, Steps p.tables e below (s₁.setTop (mkF m 0 #[.val (.int p1), .val (.int p2), .val (.int p3), .unset, .unset, .unset, .unset, .unset, .unset] [])) t → Steps p.tables e below (s₁.setTop (entryFrame m #[(.int p1), (.int p2), (.int p3)] maxLocals)) t := fun t k => castTop (by first | (simp [entryFrame, mkF, argsToLocals, Value.category, maxLocals]; done) | rfl) k
  obtain ⟨T1, X1, e1, st1⟩ := getS2 X0 hx hZ hown (host := "") (Or.inl (hw _ (List.mem_of_getElem? (i := 27) rfl))) Via.refl e0 S_WORD_BOUNDARY (g := (mkF m 93 #[.val (.int p1), .val (.int p2), .val (.int p3), .val (.int 4), .val (.int vb), .val (.int va), .unset, .unset, .unset] [])) rfl (hb hby at_93)
  obtain ⟨cq2, kq2, q2a, q2b, q2c⟩ := isOf hZ e1 E_w_WORD_BOUNDARY
  obtain ⟨_, _, ⟨T2, L2, k2, n2⟩, -, X2, ⟨Lc2, hQ2, l2, y2, z2⟩, st2⟩ := X1.virtualBack hx (y := (⟨"com/example/termwell/termwell/core/text/RegexNode$Anchor", "holds", "(II)Z"⟩ : MethodName)) (z := (⟨"com/example/termwell/termwell/core/text/RegexNode$Anchor", "holds", "(II)Z"⟩ : MethodName)) hown (mvT hZ (hw _ (List.mem_of_getElem? (i := 4) rfl))) (mvT hZ (hw _ (List.mem_of_getElem? (i := 5) rfl))) (notFace_of_selects (args := #[]) (mvT hZ (hw _ (List.mem_of_getElem? (i := 7) rfl)))) (mvT hZ (hw _ (List.mem_of_getElem? (i := 7) rfl))) (mvT hZ (hw _ (List.mem_of_getElem? (i := 6) rfl))) (by decide) (backOf (W := 0) (rm1_w_WORD_BOUNDARY_vb_va_rff l Z a0 hw [] w_WORD_BOUNDARY vb va h0 n0 Z0 F_ordinal_w_WORD_BOUNDARY E_w_WORD_BOUNDARY hc114 hc124) hZ (hw _ (List.mem_of_getElem? (i := 8) rfl)) (hw _ (List.mem_of_getElem? (i := 2) rfl)) (by decide) (by decide)) q2a q2c (g := (mkF m 143 #[.val (.int p1), .val (.int p2), .val (.int p3), .val (.int 4), .val (.int vb), .val (.int va), .val (.ref w_WORD_BOUNDARY), .val (.int 19268), .val (.int 0)] [(.int va), (.int vb), (.ref w_WORD_BOUNDARY)])) rfl (by rw [hml]; rfl) (Steps.refl _) (argsL := [(.int vb), (.int va)]) (rest := []) (lenOf pd__II_Z rfl) rfl (by show 2 * 0 + _ ≤ _; exact Nat.le_of_eq rfl) (hb hby at_143) (fun _ _ => ⟨rfl, e1, (by decide : 0 + 0 ≤ _), (by decide : 0 + 0 ≤ _)⟩)
  dsimp only [Pt.U, Pt.locs, Pt.cells, Pt.slots] at X2 l2 y2 z2 st2 hQ2
  subst l2 y2 z2
  obtain ⟨rfl, N2q, e2⟩ := hQ2
  have N2 := Fr.app N0 N2q
  obtain ⟨fs, hr, hrun, hended, hW, hsame⟩ := X2.leave (v := some (.int 1)) (fun h => by rw [Bd.returns] at h; cases h)
  refine ⟨_, _, pre0 _ ?_, hrun, hended, _, _, rfl, ?_, ⟨_, rfl⟩, hW, hsame.mono (by decide) (by decide)⟩
  · show Steps p.tables e below (s₁.setTop (mkF m 0 #[.val (.int p1), .val (.int p2), .val (.int p3), .unset, .unset, .unset, .unset, .unset, .unset] [])) _
    refine XS.iloadN X0.here hx rfl (hb hby at_0) rfl ?_
    show Steps p.tables e below (s₁.setTop (mkF m 1 #[.val (.int p1), .val (.int p2), .val (.int p3), .unset, .unset, .unset, .unset, .unset, .unset] [(.int p1)])) _
    refine X0.ldcInt hx hown (mvT hZ (hw _ (List.mem_of_getElem? (i := 0) rfl))) (g := (mkF m 1 #[.val (.int p1), .val (.int p2), .val (.int p3), .unset, .unset, .unset, .unset, .unset, .unset] [(.int p1)])) rfl (hb hby at_1) _ ?_
    show Steps p.tables e below (s₁.setTop (mkF m 3 #[.val (.int p1), .val (.int p2), .val (.int p3), .unset, .unset, .unset, .unset, .unset, .unset] [(.int 2147483647), (.int p1)])) _
    refine XS.iand X0.here hx rfl (hb hby at_3) rfl ?_
    show Steps p.tables e below (s₁.setTop (mkF m 4 #[.val (.int p1), .val (.int p2), .val (.int p3), .unset, .unset, .unset, .unset, .unset, .unset] [(.int (p1 &&& (2147483647 : Int32)))])) _
    refine XS.bipush X0.here hx rfl (hb hby at_4) ?_
    show Steps p.tables e below (s₁.setTop (mkF m 6 #[.val (.int p1), .val (.int p2), .val (.int p3), .unset, .unset, .unset, .unset, .unset, .unset] [(.int 6), (.int (p1 &&& (2147483647 : Int32)))])) _
    refine iremM X0 hx rfl (hb hby at_6) rfl (by decide) ?_
    show Steps p.tables e below (s₁.setTop (mkF m 7 #[.val (.int p1), .val (.int p2), .val (.int p3), .unset, .unset, .unset, .unset, .unset, .unset] [(.int ((p1 &&& (2147483647 : Int32)) % (6 : Int32)))])) _
    rw [hk]
    show Steps p.tables e below (s₁.setTop (mkF m 7 #[.val (.int p1), .val (.int p2), .val (.int p3), .unset, .unset, .unset, .unset, .unset, .unset] [(.int 4)])) _
    refine XS.istoreN X0.here hx rfl (hb hby at_7) rfl (l' := #[.val (.int p1), .val (.int p2), .val (.int p3), .val (.int 4), .unset, .unset, .unset, .unset, .unset]) rfl ?_
    show Steps p.tables e below (s₁.setTop (mkF m 8 #[.val (.int p1), .val (.int p2), .val (.int p3), .val (.int 4), .unset, .unset, .unset, .unset, .unset] [])) _
    refine XS.iloadN X0.here hx rfl (hb hby at_8) rfl ?_
    show Steps p.tables e below (s₁.setTop (mkF m 9 #[.val (.int p1), .val (.int p2), .val (.int p3), .val (.int 4), .unset, .unset, .unset, .unset, .unset] [(.int p2)])) _
    refine XS.iconst X0.here hx rfl (hb hby at_9) ?_
    show Steps p.tables e below (s₁.setTop (mkF m 10 #[.val (.int p1), .val (.int p2), .val (.int p3), .val (.int 4), .unset, .unset, .unset, .unset, .unset] [(.int 3), (.int p2)])) _
    refine XS.iand X0.here hx rfl (hb hby at_10) rfl ?_
    show Steps p.tables e below (s₁.setTop (mkF m 11 #[.val (.int p1), .val (.int p2), .val (.int p3), .val (.int 4), .unset, .unset, .unset, .unset, .unset] [(.int (p2 &&& (3 : Int32)))])) _
    rw [hvb]
    show Steps p.tables e below (s₁.setTop (mkF m 11 #[.val (.int p1), .val (.int p2), .val (.int p3), .val (.int 4), .unset, .unset, .unset, .unset, .unset] [(.int vb)])) _
    refine XS.istore X0.here hx rfl (hb hby at_11) rfl (l' := #[.val (.int p1), .val (.int p2), .val (.int p3), .val (.int 4), .val (.int vb), .unset, .unset, .unset, .unset]) rfl ?_
    show Steps p.tables e below (s₁.setTop (mkF m 13 #[.val (.int p1), .val (.int p2), .val (.int p3), .val (.int 4), .val (.int vb), .unset, .unset, .unset, .unset] [])) _
    refine XS.iloadN X0.here hx rfl (hb hby at_13) rfl ?_
    show Steps p.tables e below (s₁.setTop (mkF m 14 #[.val (.int p1), .val (.int p2), .val (.int p3), .val (.int 4), .val (.int vb), .unset, .unset, .unset, .unset] [(.int p3)])) _
    refine XS.iconst X0.here hx rfl (hb hby at_14) ?_
    show Steps p.tables e below (s₁.setTop (mkF m 15 #[.val (.int p1), .val (.int p2), .val (.int p3), .val (.int 4), .val (.int vb), .unset, .unset, .unset, .unset] [(.int 3), (.int p3)])) _
    refine XS.iand X0.here hx rfl (hb hby at_15) rfl ?_
    show Steps p.tables e below (s₁.setTop (mkF m 16 #[.val (.int p1), .val (.int p2), .val (.int p3), .val (.int 4), .val (.int vb), .unset, .unset, .unset, .unset] [(.int (p3 &&& (3 : Int32)))])) _
    rw [hva]
    show Steps p.tables e below (s₁.setTop (mkF m 16 #[.val (.int p1), .val (.int p2), .val (.int p3), .val (.int 4), .val (.int vb), .unset, .unset, .unset, .unset] [(.int va)])) _
    refine XS.istore X0.here hx rfl (hb hby at_16) rfl (l' := #[.val (.int p1), .val (.int p2), .val (.int p3), .val (.int 4), .val (.int vb), .val (.int va), .unset, .unset, .unset]) rfl ?_
    show Steps p.tables e below (s₁.setTop (mkF m 18 #[.val (.int p1), .val (.int p2), .val (.int p3), .val (.int 4), .val (.int vb), .val (.int va), .unset, .unset, .unset] [])) _
    refine XS.iloadN X0.here hx rfl (hb hby at_18) rfl ?_
    show Steps p.tables e below (s₁.setTop (mkF m 19 #[.val (.int p1), .val (.int p2), .val (.int p3), .val (.int 4), .val (.int vb), .val (.int va), .unset, .unset, .unset] [(.int 4)])) _
    refine XS.ifYes X0.here hx rfl (pc0 := 19) (pc' := 34) rfl (hb hby at_19) rfl ((if0 _ _).trans (feq (by decide : ¬ ((4 : Int32) = (0 : Int32)))).2) (by decide) (by decide) ?_
    show Steps p.tables e below (s₁.setTop (mkF m 34 #[.val (.int p1), .val (.int p2), .val (.int p3), .val (.int 4), .val (.int vb), .val (.int va), .unset, .unset, .unset] [])) _
    refine XS.iloadN X0.here hx rfl (hb hby at_34) rfl ?_
    show Steps p.tables e below (s₁.setTop (mkF m 35 #[.val (.int p1), .val (.int p2), .val (.int p3), .val (.int 4), .val (.int vb), .val (.int va), .unset, .unset, .unset] [(.int 4)])) _
    refine XS.iconst X0.here hx rfl (hb hby at_35) ?_
    show Steps p.tables e below (s₁.setTop (mkF m 36 #[.val (.int p1), .val (.int p2), .val (.int p3), .val (.int 4), .val (.int vb), .val (.int va), .unset, .unset, .unset] [(.int 1), (.int 4)])) _
    refine XS.icmpYes X0.here hx rfl (pc0 := 36) (pc' := 52) rfl (hb hby at_36) rfl (feq (by decide : ¬ ((4 : Int32) = (1 : Int32)))).2 (by decide) (by decide) ?_
    show Steps p.tables e below (s₁.setTop (mkF m 52 #[.val (.int p1), .val (.int p2), .val (.int p3), .val (.int 4), .val (.int vb), .val (.int va), .unset, .unset, .unset] [])) _
    refine XS.iloadN X0.here hx rfl (hb hby at_52) rfl ?_
    show Steps p.tables e below (s₁.setTop (mkF m 53 #[.val (.int p1), .val (.int p2), .val (.int p3), .val (.int 4), .val (.int vb), .val (.int va), .unset, .unset, .unset] [(.int 4)])) _
    refine XS.iconst X0.here hx rfl (hb hby at_53) ?_
    show Steps p.tables e below (s₁.setTop (mkF m 54 #[.val (.int p1), .val (.int p2), .val (.int p3), .val (.int 4), .val (.int vb), .val (.int va), .unset, .unset, .unset] [(.int 2), (.int 4)])) _
    refine XS.icmpYes X0.here hx rfl (pc0 := 54) (pc' := 70) rfl (hb hby at_54) rfl (feq (by decide : ¬ ((4 : Int32) = (2 : Int32)))).2 (by decide) (by decide) ?_
    show Steps p.tables e below (s₁.setTop (mkF m 70 #[.val (.int p1), .val (.int p2), .val (.int p3), .val (.int 4), .val (.int vb), .val (.int va), .unset, .unset, .unset] [])) _
    refine XS.iloadN X0.here hx rfl (hb hby at_70) rfl ?_
    show Steps p.tables e below (s₁.setTop (mkF m 71 #[.val (.int p1), .val (.int p2), .val (.int p3), .val (.int 4), .val (.int vb), .val (.int va), .unset, .unset, .unset] [(.int 4)])) _
    refine XS.iconst X0.here hx rfl (hb hby at_71) ?_
    show Steps p.tables e below (s₁.setTop (mkF m 72 #[.val (.int p1), .val (.int p2), .val (.int p3), .val (.int 4), .val (.int vb), .val (.int va), .unset, .unset, .unset] [(.int 3), (.int 4)])) _
    refine XS.icmpYes X0.here hx rfl (pc0 := 72) (pc' := 88) rfl (hb hby at_72) rfl (feq (by decide : ¬ ((4 : Int32) = (3 : Int32)))).2 (by decide) (by decide) ?_
    show Steps p.tables e below (s₁.setTop (mkF m 88 #[.val (.int p1), .val (.int p2), .val (.int p3), .val (.int 4), .val (.int vb), .val (.int va), .unset, .unset, .unset] [])) _
    refine XS.iloadN X0.here hx rfl (hb hby at_88) rfl ?_
    show Steps p.tables e below (s₁.setTop (mkF m 89 #[.val (.int p1), .val (.int p2), .val (.int p3), .val (.int 4), .val (.int vb), .val (.int va), .unset, .unset, .unset] [(.int 4)])) _
    refine XS.iconst X0.here hx rfl (hb hby at_89) ?_
    show Steps p.tables e below (s₁.setTop (mkF m 90 #[.val (.int p1), .val (.int p2), .val (.int p3), .val (.int 4), .val (.int vb), .val (.int va), .unset, .unset, .unset] [(.int 4), (.int 4)])) _
    refine XS.icmpNo X0.here hx rfl (hb hby at_90) rfl (teq (by decide : (4 : Int32) = (4 : Int32))).2 ?_
    show Steps p.tables e below (s₁.setTop (mkF m 93 #[.val (.int p1), .val (.int p2), .val (.int p3), .val (.int 4), .val (.int vb), .val (.int va), .unset, .unset, .unset] [])) _
    refine st1 _ ?_
    show Steps p.tables e below (T1.setTop (mkF m 96 #[.val (.int p1), .val (.int p2), .val (.int p3), .val (.int 4), .val (.int vb), .val (.int va), .unset, .unset, .unset] [(.ref w_WORD_BOUNDARY)])) _
    refine XS.astore X1.here hx rfl (hb hby at_96) rfl rfl (l' := #[.val (.int p1), .val (.int p2), .val (.int p3), .val (.int 4), .val (.int vb), .val (.int va), .val (.ref w_WORD_BOUNDARY), .unset, .unset]) rfl ?_
    show Steps p.tables e below (T1.setTop (mkF m 98 #[.val (.int p1), .val (.int p2), .val (.int p3), .val (.int 4), .val (.int vb), .val (.int va), .val (.ref w_WORD_BOUNDARY), .unset, .unset] [])) _
    refine XS.sipush X1.here hx rfl (hb hby at_98) ?_
    show Steps p.tables e below (T1.setTop (mkF m 101 #[.val (.int p1), .val (.int p2), .val (.int p3), .val (.int 4), .val (.int vb), .val (.int va), .val (.ref w_WORD_BOUNDARY), .unset, .unset] [(.int 19268)])) _
    refine XS.istore X1.here hx rfl (hb hby at_101) rfl (l' := #[.val (.int p1), .val (.int p2), .val (.int p3), .val (.int 4), .val (.int vb), .val (.int va), .val (.ref w_WORD_BOUNDARY), .val (.int 19268), .unset]) rfl ?_
    show Steps p.tables e below (T1.setTop (mkF m 103 #[.val (.int p1), .val (.int p2), .val (.int p3), .val (.int 4), .val (.int vb), .val (.int va), .val (.ref w_WORD_BOUNDARY), .val (.int 19268), .unset] [])) _
    refine XS.goto X1.here hx rfl (pc0 := 103) (pc' := 115) rfl (hb hby at_103) (by decide) (by decide) ?_
    show Steps p.tables e below (T1.setTop (mkF m 115 #[.val (.int p1), .val (.int p2), .val (.int p3), .val (.int 4), .val (.int vb), .val (.int va), .val (.ref w_WORD_BOUNDARY), .val (.int 19268), .unset] [])) _
    refine XS.iload X1.here hx rfl (hb hby at_115) rfl ?_
    show Steps p.tables e below (T1.setTop (mkF m 117 #[.val (.int p1), .val (.int p2), .val (.int p3), .val (.int 4), .val (.int vb), .val (.int va), .val (.ref w_WORD_BOUNDARY), .val (.int 19268), .unset] [(.int 19268)])) _
    refine XS.iload X1.here hx rfl (hb hby at_117) rfl ?_
    show Steps p.tables e below (T1.setTop (mkF m 119 #[.val (.int p1), .val (.int p2), .val (.int p3), .val (.int 4), .val (.int vb), .val (.int va), .val (.ref w_WORD_BOUNDARY), .val (.int 19268), .unset] [(.int vb), (.int 19268)])) _
    refine XS.iconst X1.here hx rfl (hb hby at_119) ?_
    show Steps p.tables e below (T1.setTop (mkF m 120 #[.val (.int p1), .val (.int p2), .val (.int p3), .val (.int 4), .val (.int vb), .val (.int va), .val (.ref w_WORD_BOUNDARY), .val (.int 19268), .unset] [(.int 4), (.int vb), (.int 19268)])) _
    refine XS.imul X1.here hx rfl (hb hby at_120) rfl ?_
    show Steps p.tables e below (T1.setTop (mkF m 121 #[.val (.int p1), .val (.int p2), .val (.int p3), .val (.int 4), .val (.int vb), .val (.int va), .val (.ref w_WORD_BOUNDARY), .val (.int 19268), .unset] [(.int (vb * (4 : Int32))), (.int 19268)])) _
    refine XS.iload X1.here hx rfl (hb hby at_121) rfl ?_
    show Steps p.tables e below (T1.setTop (mkF m 123 #[.val (.int p1), .val (.int p2), .val (.int p3), .val (.int 4), .val (.int vb), .val (.int va), .val (.ref w_WORD_BOUNDARY), .val (.int 19268), .unset] [(.int va), (.int (vb * (4 : Int32))), (.int 19268)])) _
    refine XS.iadd X1.here hx rfl (hb hby at_123) rfl ?_
    show Steps p.tables e below (T1.setTop (mkF m 124 #[.val (.int p1), .val (.int p2), .val (.int p3), .val (.int 4), .val (.int vb), .val (.int va), .val (.ref w_WORD_BOUNDARY), .val (.int 19268), .unset] [(.int ((vb * (4 : Int32)) + va)), (.int 19268)])) _
    refine XS.iushr X1.here hx rfl (hb hby at_124) rfl ?_
    show Steps p.tables e below (T1.setTop (mkF m 125 #[.val (.int p1), .val (.int p2), .val (.int p3), .val (.int 4), .val (.int vb), .val (.int va), .val (.ref w_WORD_BOUNDARY), .val (.int 19268), .unset] [(.int (((19268 : Int32).toUInt32 >>> (((vb * (4 : Int32)) + va) &&& 31).toUInt32).toInt32))])) _
    refine XS.iconst X1.here hx rfl (hb hby at_125) ?_
    show Steps p.tables e below (T1.setTop (mkF m 126 #[.val (.int p1), .val (.int p2), .val (.int p3), .val (.int 4), .val (.int vb), .val (.int va), .val (.ref w_WORD_BOUNDARY), .val (.int 19268), .unset] [(.int 1), (.int (((19268 : Int32).toUInt32 >>> (((vb * (4 : Int32)) + va) &&& 31).toUInt32).toInt32))])) _
    refine XS.iand X1.here hx rfl (hb hby at_126) rfl ?_
    show Steps p.tables e below (T1.setTop (mkF m 127 #[.val (.int p1), .val (.int p2), .val (.int p3), .val (.int 4), .val (.int vb), .val (.int va), .val (.ref w_WORD_BOUNDARY), .val (.int 19268), .unset] [(.int ((((19268 : Int32).toUInt32 >>> (((vb * (4 : Int32)) + va) &&& 31).toUInt32).toInt32) &&& (1 : Int32)))])) _
    rw [he]
    show Steps p.tables e below (T1.setTop (mkF m 127 #[.val (.int p1), .val (.int p2), .val (.int p3), .val (.int 4), .val (.int vb), .val (.int va), .val (.ref w_WORD_BOUNDARY), .val (.int 19268), .unset] [(.int 0)])) _
    refine XS.ifYes X1.here hx rfl (pc0 := 127) (pc' := 134) rfl (hb hby at_127) rfl ((if0 _ _).trans (teq (by decide : (0 : Int32) = (0 : Int32))).1) (by decide) (by decide) ?_
    show Steps p.tables e below (T1.setTop (mkF m 134 #[.val (.int p1), .val (.int p2), .val (.int p3), .val (.int 4), .val (.int vb), .val (.int va), .val (.ref w_WORD_BOUNDARY), .val (.int 19268), .unset] [])) _
    refine XS.iconst X1.here hx rfl (hb hby at_134) ?_
    show Steps p.tables e below (T1.setTop (mkF m 135 #[.val (.int p1), .val (.int p2), .val (.int p3), .val (.int 4), .val (.int vb), .val (.int va), .val (.ref w_WORD_BOUNDARY), .val (.int 19268), .unset] [(.int 0)])) _
    refine XS.istore X1.here hx rfl (hb hby at_135) rfl (l' := #[.val (.int p1), .val (.int p2), .val (.int p3), .val (.int 4), .val (.int vb), .val (.int va), .val (.ref w_WORD_BOUNDARY), .val (.int 19268), .val (.int 0)]) rfl ?_
    show Steps p.tables e below (T1.setTop (mkF m 137 #[.val (.int p1), .val (.int p2), .val (.int p3), .val (.int 4), .val (.int vb), .val (.int va), .val (.ref w_WORD_BOUNDARY), .val (.int 19268), .val (.int 0)] [])) _
    refine XS.aload X1.here hx rfl (hb hby at_137) rfl rfl ?_
    show Steps p.tables e below (T1.setTop (mkF m 139 #[.val (.int p1), .val (.int p2), .val (.int p3), .val (.int 4), .val (.int vb), .val (.int va), .val (.ref w_WORD_BOUNDARY), .val (.int 19268), .val (.int 0)] [(.ref w_WORD_BOUNDARY)])) _
    refine XS.iload X1.here hx rfl (hb hby at_139) rfl ?_
    show Steps p.tables e below (T1.setTop (mkF m 141 #[.val (.int p1), .val (.int p2), .val (.int p3), .val (.int 4), .val (.int vb), .val (.int va), .val (.ref w_WORD_BOUNDARY), .val (.int 19268), .val (.int 0)] [(.int vb), (.ref w_WORD_BOUNDARY)])) _
    refine XS.iload X1.here hx rfl (hb hby at_141) rfl ?_
    show Steps p.tables e below (T1.setTop (mkF m 143 #[.val (.int p1), .val (.int p2), .val (.int p3), .val (.int 4), .val (.int vb), .val (.int va), .val (.ref w_WORD_BOUNDARY), .val (.int 19268), .val (.int 0)] [(.int va), (.int vb), (.ref w_WORD_BOUNDARY)])) _
    refine st2.trans ?_
    show Steps p.tables e below (T2.setTop (mkF m 146 #[.val (.int p1), .val (.int p2), .val (.int p3), .val (.int 4), .val (.int vb), .val (.int va), .val (.ref w_WORD_BOUNDARY), .val (.int 19268), .val (.int 0)] [(.int 0)])) _
    refine XS.iload X2.here hx rfl (hb hby at_146) rfl ?_
    show Steps p.tables e below (T2.setTop (mkF m 148 #[.val (.int p1), .val (.int p2), .val (.int p3), .val (.int 4), .val (.int vb), .val (.int va), .val (.ref w_WORD_BOUNDARY), .val (.int 19268), .val (.int 0)] [(.int 0), (.int 0)])) _
    refine XS.icmpNo X2.here hx rfl (hb hby at_148) rfl (teq (by decide : (0 : Int32) = (0 : Int32))).2 ?_
    show Steps p.tables e below (T2.setTop (mkF m 151 #[.val (.int p1), .val (.int p2), .val (.int p3), .val (.int 4), .val (.int vb), .val (.int va), .val (.ref w_WORD_BOUNDARY), .val (.int 19268), .val (.int 0)] [])) _
    refine XS.iconst X2.here hx rfl (hb hby at_151) ?_
    show Steps p.tables e below (T2.setTop (mkF m 152 #[.val (.int p1), .val (.int p2), .val (.int p3), .val (.int 4), .val (.int vb), .val (.int va), .val (.ref w_WORD_BOUNDARY), .val (.int 19268), .val (.int 0)] [(.int 1)])) _
    refine XS.goto X2.here hx rfl (pc0 := 152) (pc' := 156) rfl (hb hby at_152) (by decide) (by decide) ?_
    show Steps p.tables e below (T2.setTop (mkF m 156 #[.val (.int p1), .val (.int p2), .val (.int p3), .val (.int 4), .val (.int vb), .val (.int va), .val (.ref w_WORD_BOUNDARY), .val (.int 19268), .val (.int 0)] [(.int 1)])) _
    exact retN X2 hx (t := .boolean) Bd.returns (by simp) (hb hby at_156) hr
  · show Q0_k4ff Z p1 p2 p3 vb va w_WORD_BOUNDARY h0 n0 _ T2.heap _
    rw [e2]
    exact ⟨rfl, N2, rfl⟩
def Q1_w_WORD_BOUNDARY_vb_va_rft (Z : State) (w_WORD_BOUNDARY : Addr) (vb : Int32) (va : Int32) (h0 : Heap) (n0 : Nat) (v : Option Value) (h : Heap) (L : List Loc) : Prop := v = some (.int 1) ∧ Fr n0 L ∧ h = h0
set_option maxRecDepth 65536 in
set_option maxHeartbeats 40000000 in
theorem rm1_w_WORD_BOUNDARY_vb_va_rft (l : Launch) (Z : State) (a0 : Array Value) (hw : ∀ d ∈ tables_1, d.before a0 Z = true) (ws : List Jvm.Cond) (w_WORD_BOUNDARY : Addr) (vb : Int32) (va : Int32) (h0 : Heap) (n0 : Nat) (Z0 : n0 ≤ h0.size) (F_ordinal_w_WORD_BOUNDARY : Fld Z h0 w_WORD_BOUNDARY "java/lang/Enum" "ordinal" "I" (.int 4)) (E_w_WORD_BOUNDARY : Exa Z h0 w_WORD_BOUNDARY "com/example/termwell/termwell/core/text/RegexNode$Anchor") (hc114 : vb = (2 : Int32)) (hc124 : ¬ (va = (2 : Int32))) :
    MetFree l (⟨"com/example/termwell/termwell/core/text/RegexNode$Anchor", "holds", "(II)Z"⟩ : MethodName) (head1 (Jvm.Cond.code (⟨"com/example/termwell/termwell/core/text/RegexNode$Anchor", "holds", "(II)Z"⟩ : MethodName) prog_28_method_5_code 3 (some .boolean) :: ws) ({ frames := 1, cells := 0, slots := 0, locals := 12 } : Room)) (fun a U => a = #[(.ref w_WORD_BOUNDARY), (.int vb), (.int va)] ∧ Z.Warmed39 U.vm ∧ U.heap = h0) (fun _ _ _ _ _ => True) (fun _ U o U' => ∃ v L, o = .returned v ∧ Q1_w_WORD_BOUNDARY_vb_va_rft Z w_WORD_BOUNDARY vb va h0 n0 v U'.heap L ∧ FrameEnd U o U' L ({ frames := 1, cells := 0, slots := 0, locals := 12 } : Room).cells ({ frames := 1, cells := 0, slots := 0, locals := 12 } : Room).slots) := by
  refine MetFree.of_bodySF (plainFor_of_name pn_1) hisR ?_
  intro p e s m args below meth c s₁ Bd hml0 hP hK
  obtain ⟨rfl, hZ, hh⟩ := hP
  have hx := Bd.exec
  have hby := Bd.bytes
  have hml : c.maxLocals = 3 := hml0
  have hown : s.vm.findClass "com/example/termwell/termwell/core/text/RegexNode$Anchor" = some m.cls := findClass_of_methodNamed Bd.named
  have hnm := (name_of_methodNamed Bd.named Bd.method).1
  have X0 : Stand p l e ({ frames := 1, cells := 0, slots := 0, locals := 12 } : Room) s m #[(.ref w_WORD_BOUNDARY), (.int vb), (.int va)] below meth c s₁ [] 0 0 := Stand.of_body Bd
  have e0 : s₁.heap = h0 := by rw [← hh, Bd.state]; rfl
  have N0 := Fr.nil n0
  have pre0 : ∀ t, Steps p.tables e below (s₁.setTop (mkF m 0 #[.val (.ref w_WORD_BOUNDARY), .val (.int vb), .val (.int va)] [])) t → Steps p.tables e below (s₁.setTop (entryFrame m #[(.ref w_WORD_BOUNDARY), (.int vb), (.int va)] 3)) t := fun t k => castTop (by first | (simp [entryFrame, mkF, argsToLocals, Value.category]; done) | rfl) k
  obtain ⟨cq1, kq1, q1a, q1b, q1c⟩ := isOf hZ e0 E_w_WORD_BOUNDARY
  obtain ⟨_, _, ⟨T1, L1, k1, n1⟩, -, X1, ⟨Lc1, hQ1, l1, y1, z1⟩, st1⟩ := X0.virtualBackUp hx (x := (⟨"com/example/termwell/termwell/core/text/RegexNode$Anchor", "ordinal", "()I"⟩ : MethodName)) (y := (⟨"java/lang/Enum", "ordinal", "()I"⟩ : MethodName)) (owner := "java/lang/Enum") hown (mvT hZ (hw _ (List.mem_of_getElem? (i := 9) rfl))) (mvT hZ (hw _ (List.mem_of_getElem? (i := 10) rfl))) (mvT hZ (hw _ (List.mem_of_getElem? (i := 11) rfl))) (by decide) (mvT hZ (hw _ (List.mem_of_getElem? (i := 13) rfl))) (mvT hZ (hw _ (List.mem_of_getElem? (i := 12) rfl))) (backOf (W := 0) (rm2_w_WORD_BOUNDARY l Z a0 hw [] w_WORD_BOUNDARY h0 n0 Z0 F_ordinal_w_WORD_BOUNDARY) hZ (hw _ (List.mem_of_getElem? (i := 15) rfl)) (hw _ (List.mem_of_getElem? (i := 14) rfl)) (by decide) (by decide)) q1a q1c (g := (mkF m 1 #[.val (.ref w_WORD_BOUNDARY), .val (.int vb), .val (.int va)] [(.ref w_WORD_BOUNDARY)])) rfl (by rw [hml]; rfl) (Steps.refl _) (argsL := []) (rest := []) (lenOf pd___I rfl) rfl (by show 2 * 0 + _ ≤ _; exact Nat.le_of_eq rfl) (hb hby d1_1) (fun _ _ => ⟨rfl, e0, (by decide : 0 + 0 ≤ _), (by decide : 0 + 0 ≤ _)⟩)
  dsimp only [Pt.U, Pt.locs, Pt.cells, Pt.slots] at X1 l1 y1 z1 st1 hQ1
  subst l1 y1 z1
  obtain ⟨rfl, N1q, e1⟩ := hQ1
  have N1 := Fr.app N0 N1q
  obtain ⟨fs, hr, hrun, hended, hW, hsame⟩ := X1.leave (v := some (.int 1)) (fun h => by rw [Bd.returns] at h; cases h)
  refine ⟨_, _, pre0 _ ?_, hrun, hended, _, _, rfl, ?_, ⟨_, rfl⟩, hW, hsame.mono (by decide) (by decide)⟩
  · show Steps p.tables e below (s₁.setTop (mkF m 0 #[.val (.ref w_WORD_BOUNDARY), .val (.int vb), .val (.int va)] [])) _
    refine XS.aloadN X0.here hx rfl (hb hby d1_0) rfl rfl ?_
    show Steps p.tables e below (s₁.setTop (mkF m 1 #[.val (.ref w_WORD_BOUNDARY), .val (.int vb), .val (.int va)] [(.ref w_WORD_BOUNDARY)])) _
    refine st1.trans ?_
    show Steps p.tables e below (T1.setTop (mkF m 4 #[.val (.ref w_WORD_BOUNDARY), .val (.int vb), .val (.int va)] [(.int 4)])) _
    refine XS.tswIn X1.here hx rfl (pc0 := 4) (pc' := 112) rfl (hb hby d1_4) rfl (by decide) (o := 108) (by decide) (by decide) (by decide) ?_
    show Steps p.tables e below (T1.setTop (mkF m 112 #[.val (.ref w_WORD_BOUNDARY), .val (.int vb), .val (.int va)] [])) _
    refine XS.iloadN X1.here hx rfl (hb hby d1_112) rfl ?_
    show Steps p.tables e below (T1.setTop (mkF m 113 #[.val (.ref w_WORD_BOUNDARY), .val (.int vb), .val (.int va)] [(.int vb)])) _
    refine XS.iconst X1.here hx rfl (hb hby d1_113) ?_
    show Steps p.tables e below (T1.setTop (mkF m 114 #[.val (.ref w_WORD_BOUNDARY), .val (.int vb), .val (.int va)] [(.int 2), (.int vb)])) _
    refine XS.icmpNo X1.here hx rfl (hb hby d1_114) rfl (teq hc114).2 ?_
    show Steps p.tables e below (T1.setTop (mkF m 117 #[.val (.ref w_WORD_BOUNDARY), .val (.int vb), .val (.int va)] [])) _
    refine XS.iconst X1.here hx rfl (hb hby d1_117) ?_
    show Steps p.tables e below (T1.setTop (mkF m 118 #[.val (.ref w_WORD_BOUNDARY), .val (.int vb), .val (.int va)] [(.int 1)])) _
    refine XS.goto X1.here hx rfl (pc0 := 118) (pc' := 122) rfl (hb hby d1_118) (by decide) (by decide) ?_
    show Steps p.tables e below (T1.setTop (mkF m 122 #[.val (.ref w_WORD_BOUNDARY), .val (.int vb), .val (.int va)] [(.int 1)])) _
    refine XS.iloadN X1.here hx rfl (hb hby d1_122) rfl ?_
    show Steps p.tables e below (T1.setTop (mkF m 123 #[.val (.ref w_WORD_BOUNDARY), .val (.int vb), .val (.int va)] [(.int va), (.int 1)])) _
    refine XS.iconst X1.here hx rfl (hb hby d1_123) ?_
    show Steps p.tables e below (T1.setTop (mkF m 124 #[.val (.ref w_WORD_BOUNDARY), .val (.int vb), .val (.int va)] [(.int 2), (.int va), (.int 1)])) _
    refine XS.icmpYes X1.here hx rfl (pc0 := 124) (pc' := 131) rfl (hb hby d1_124) rfl (feq hc124).2 (by decide) (by decide) ?_
    show Steps p.tables e below (T1.setTop (mkF m 131 #[.val (.ref w_WORD_BOUNDARY), .val (.int vb), .val (.int va)] [(.int 1)])) _
    refine XS.iconst X1.here hx rfl (hb hby d1_131) ?_
    show Steps p.tables e below (T1.setTop (mkF m 132 #[.val (.ref w_WORD_BOUNDARY), .val (.int vb), .val (.int va)] [(.int 0), (.int 1)])) _
    refine XS.icmpNo X1.here hx rfl (hb hby d1_132) rfl (feq (by decide : ¬ ((1 : Int32) = (0 : Int32)))).1 ?_
    show Steps p.tables e below (T1.setTop (mkF m 135 #[.val (.ref w_WORD_BOUNDARY), .val (.int vb), .val (.int va)] [])) _
    refine XS.iconst X1.here hx rfl (hb hby d1_135) ?_
    show Steps p.tables e below (T1.setTop (mkF m 136 #[.val (.ref w_WORD_BOUNDARY), .val (.int vb), .val (.int va)] [(.int 1)])) _
    refine XS.goto X1.here hx rfl (pc0 := 136) (pc' := 171) rfl (hb hby d1_136) (by decide) (by decide) ?_
    show Steps p.tables e below (T1.setTop (mkF m 171 #[.val (.ref w_WORD_BOUNDARY), .val (.int vb), .val (.int va)] [(.int 1)])) _
    exact retN X1 hx (t := .boolean) Bd.returns (by simp) (hb hby d1_171) hr
  · show Q1_w_WORD_BOUNDARY_vb_va_rft Z w_WORD_BOUNDARY vb va h0 n0 _ T1.heap _
    rw [e1]
    exact ⟨rfl, N1, rfl⟩
def Q0_k4ft (Z : State) (p1 : Int32) (p2 : Int32) (p3 : Int32) (vb : Int32) (va : Int32) (w_WORD_BOUNDARY : Addr) (h0 : Heap) (n0 : Nat) (v : Option Value) (h : Heap) (L : List Loc) : Prop := v = some (.int 1) ∧ Fr n0 L ∧ h = h0
set_option maxRecDepth 65536 in
set_option maxHeartbeats 40000000 in
theorem rm0_k4ft (l : Launch) (Z : State) (a0 : Array Value) (hw : ∀ d ∈ tables_1, d.before a0 Z = true) (ws : List Jvm.Cond) (p1 : Int32) (p2 : Int32) (p3 : Int32) (vb : Int32) (va : Int32) (w_WORD_BOUNDARY : Addr) (h0 : Heap) (n0 : Nat) (Z0 : n0 ≤ h0.size) (hk : ((p1 &&& (2147483647 : Int32)) % (6 : Int32)) = (4 : Int32)) (hvb : (p2 &&& (3 : Int32)) = vb) (hva : (p3 &&& (3 : Int32)) = va) (S_WORD_BOUNDARY : Sta Z h0 "com/example/termwell/termwell/core/text/RegexNode$Anchor" "WORD_BOUNDARY" "Lcom/example/termwell/termwell/core/text/RegexNode$Anchor;" (.ref w_WORD_BOUNDARY)) (he : ((((19268 : Int32).toUInt32 >>> (((vb * (4 : Int32)) + va) &&& 31).toUInt32).toInt32) &&& (1 : Int32)) = (1 : Int32)) (F_ordinal_w_WORD_BOUNDARY : Fld Z h0 w_WORD_BOUNDARY "java/lang/Enum" "ordinal" "I" (.int 4)) (E_w_WORD_BOUNDARY : Exa Z h0 w_WORD_BOUNDARY "com/example/termwell/termwell/core/text/RegexNode$Anchor") (hc114 : vb = (2 : Int32)) (hc124 : ¬ (va = (2 : Int32))) :
    MetFree l x (head1 (Jvm.Cond.code x code maxLocals ret :: ws) room_1) (fun a U => a = #[(.int p1), (.int p2), (.int p3)] ∧ Z.Warmed39 U.vm ∧ U.heap = h0) (fun _ _ _ _ _ => True) (fun _ U o U' => ∃ v L, o = .returned v ∧ Q0_k4ft Z p1 p2 p3 vb va w_WORD_BOUNDARY h0 n0 v U'.heap L ∧ FrameEnd U o U' L room_1.cells room_1.slots) := by
  refine MetFree.of_bodySF (plainFor_of_name pn_0) hisR ?_
  intro p e s m args below meth c s₁ Bd hml0 hP hK
  obtain ⟨rfl, hZ, hh⟩ := hP
  have hx := Bd.exec
  have hby := Bd.bytes
  have hml : c.maxLocals = 9 := hml0
  have hown : s.vm.findClass "com/example/termwell/termwell/core/text/AnchorHoldsPinLaw" = some m.cls := findClass_of_methodNamed Bd.named
  have hnm := (name_of_methodNamed Bd.named Bd.method).1
  have X0 : Stand p l e room_1 s m #[(.int p1), (.int p2), (.int p3)] below meth c s₁ [] 0 0 := Stand.of_body Bd
  have e0 : s₁.heap = h0 := by rw [← hh, Bd.state]; rfl
  have N0 := Fr.nil n0
  have pre0 : ∀ t, Steps p.tables e below (s₁.setTop (mkF m 0 #[.val (.int p1), .val (.int p2), .val (.int p3), .unset, .unset, .unset, .unset, .unset, .unset] [])) t → Steps p.tables e below (s₁.setTop (entryFrame m #[(.int p1), (.int p2), (.int p3)] maxLocals)) t := fun t k => castTop (by first | (simp [entryFrame, mkF, argsToLocals, Value.category, maxLocals]; done) | rfl) k
  obtain ⟨T1, X1, e1, st1⟩ := getS2 X0 hx hZ hown (host := "") (Or.inl (hw _ (List.mem_of_getElem? (i := 27) rfl))) Via.refl e0 S_WORD_BOUNDARY (g := (mkF m 93 #[.val (.int p1), .val (.int p2), .val (.int p3), .val (.int 4), .val (.int vb), .val (.int va), .unset, .unset, .unset] [])) rfl (hb hby at_93)
  obtain ⟨cq2, kq2, q2a, q2b, q2c⟩ := isOf hZ e1 E_w_WORD_BOUNDARY
  obtain ⟨_, _, ⟨T2, L2, k2, n2⟩, -, X2, ⟨Lc2, hQ2, l2, y2, z2⟩, st2⟩ := X1.virtualBack hx (y := (⟨"com/example/termwell/termwell/core/text/RegexNode$Anchor", "holds", "(II)Z"⟩ : MethodName)) (z := (⟨"com/example/termwell/termwell/core/text/RegexNode$Anchor", "holds", "(II)Z"⟩ : MethodName)) hown (mvT hZ (hw _ (List.mem_of_getElem? (i := 4) rfl))) (mvT hZ (hw _ (List.mem_of_getElem? (i := 5) rfl))) (notFace_of_selects (args := #[]) (mvT hZ (hw _ (List.mem_of_getElem? (i := 7) rfl)))) (mvT hZ (hw _ (List.mem_of_getElem? (i := 7) rfl))) (mvT hZ (hw _ (List.mem_of_getElem? (i := 6) rfl))) (by decide) (backOf (W := 0) (rm1_w_WORD_BOUNDARY_vb_va_rft l Z a0 hw [] w_WORD_BOUNDARY vb va h0 n0 Z0 F_ordinal_w_WORD_BOUNDARY E_w_WORD_BOUNDARY hc114 hc124) hZ (hw _ (List.mem_of_getElem? (i := 8) rfl)) (hw _ (List.mem_of_getElem? (i := 2) rfl)) (by decide) (by decide)) q2a q2c (g := (mkF m 143 #[.val (.int p1), .val (.int p2), .val (.int p3), .val (.int 4), .val (.int vb), .val (.int va), .val (.ref w_WORD_BOUNDARY), .val (.int 19268), .val (.int 1)] [(.int va), (.int vb), (.ref w_WORD_BOUNDARY)])) rfl (by rw [hml]; rfl) (Steps.refl _) (argsL := [(.int vb), (.int va)]) (rest := []) (lenOf pd__II_Z rfl) rfl (by show 2 * 0 + _ ≤ _; exact Nat.le_of_eq rfl) (hb hby at_143) (fun _ _ => ⟨rfl, e1, (by decide : 0 + 0 ≤ _), (by decide : 0 + 0 ≤ _)⟩)
  dsimp only [Pt.U, Pt.locs, Pt.cells, Pt.slots] at X2 l2 y2 z2 st2 hQ2
  subst l2 y2 z2
  obtain ⟨rfl, N2q, e2⟩ := hQ2
  have N2 := Fr.app N0 N2q
  obtain ⟨fs, hr, hrun, hended, hW, hsame⟩ := X2.leave (v := some (.int 1)) (fun h => by rw [Bd.returns] at h; cases h)
  refine ⟨_, _, pre0 _ ?_, hrun, hended, _, _, rfl, ?_, ⟨_, rfl⟩, hW, hsame.mono (by decide) (by decide)⟩
  · show Steps p.tables e below (s₁.setTop (mkF m 0 #[.val (.int p1), .val (.int p2), .val (.int p3), .unset, .unset, .unset, .unset, .unset, .unset] [])) _
    refine XS.iloadN X0.here hx rfl (hb hby at_0) rfl ?_
    show Steps p.tables e below (s₁.setTop (mkF m 1 #[.val (.int p1), .val (.int p2), .val (.int p3), .unset, .unset, .unset, .unset, .unset, .unset] [(.int p1)])) _
    refine X0.ldcInt hx hown (mvT hZ (hw _ (List.mem_of_getElem? (i := 0) rfl))) (g := (mkF m 1 #[.val (.int p1), .val (.int p2), .val (.int p3), .unset, .unset, .unset, .unset, .unset, .unset] [(.int p1)])) rfl (hb hby at_1) _ ?_
    show Steps p.tables e below (s₁.setTop (mkF m 3 #[.val (.int p1), .val (.int p2), .val (.int p3), .unset, .unset, .unset, .unset, .unset, .unset] [(.int 2147483647), (.int p1)])) _
    refine XS.iand X0.here hx rfl (hb hby at_3) rfl ?_
    show Steps p.tables e below (s₁.setTop (mkF m 4 #[.val (.int p1), .val (.int p2), .val (.int p3), .unset, .unset, .unset, .unset, .unset, .unset] [(.int (p1 &&& (2147483647 : Int32)))])) _
    refine XS.bipush X0.here hx rfl (hb hby at_4) ?_
    show Steps p.tables e below (s₁.setTop (mkF m 6 #[.val (.int p1), .val (.int p2), .val (.int p3), .unset, .unset, .unset, .unset, .unset, .unset] [(.int 6), (.int (p1 &&& (2147483647 : Int32)))])) _
    refine iremM X0 hx rfl (hb hby at_6) rfl (by decide) ?_
    show Steps p.tables e below (s₁.setTop (mkF m 7 #[.val (.int p1), .val (.int p2), .val (.int p3), .unset, .unset, .unset, .unset, .unset, .unset] [(.int ((p1 &&& (2147483647 : Int32)) % (6 : Int32)))])) _
    rw [hk]
    show Steps p.tables e below (s₁.setTop (mkF m 7 #[.val (.int p1), .val (.int p2), .val (.int p3), .unset, .unset, .unset, .unset, .unset, .unset] [(.int 4)])) _
    refine XS.istoreN X0.here hx rfl (hb hby at_7) rfl (l' := #[.val (.int p1), .val (.int p2), .val (.int p3), .val (.int 4), .unset, .unset, .unset, .unset, .unset]) rfl ?_
    show Steps p.tables e below (s₁.setTop (mkF m 8 #[.val (.int p1), .val (.int p2), .val (.int p3), .val (.int 4), .unset, .unset, .unset, .unset, .unset] [])) _
    refine XS.iloadN X0.here hx rfl (hb hby at_8) rfl ?_
    show Steps p.tables e below (s₁.setTop (mkF m 9 #[.val (.int p1), .val (.int p2), .val (.int p3), .val (.int 4), .unset, .unset, .unset, .unset, .unset] [(.int p2)])) _
    refine XS.iconst X0.here hx rfl (hb hby at_9) ?_
    show Steps p.tables e below (s₁.setTop (mkF m 10 #[.val (.int p1), .val (.int p2), .val (.int p3), .val (.int 4), .unset, .unset, .unset, .unset, .unset] [(.int 3), (.int p2)])) _
    refine XS.iand X0.here hx rfl (hb hby at_10) rfl ?_
    show Steps p.tables e below (s₁.setTop (mkF m 11 #[.val (.int p1), .val (.int p2), .val (.int p3), .val (.int 4), .unset, .unset, .unset, .unset, .unset] [(.int (p2 &&& (3 : Int32)))])) _
    rw [hvb]
    show Steps p.tables e below (s₁.setTop (mkF m 11 #[.val (.int p1), .val (.int p2), .val (.int p3), .val (.int 4), .unset, .unset, .unset, .unset, .unset] [(.int vb)])) _
    refine XS.istore X0.here hx rfl (hb hby at_11) rfl (l' := #[.val (.int p1), .val (.int p2), .val (.int p3), .val (.int 4), .val (.int vb), .unset, .unset, .unset, .unset]) rfl ?_
    show Steps p.tables e below (s₁.setTop (mkF m 13 #[.val (.int p1), .val (.int p2), .val (.int p3), .val (.int 4), .val (.int vb), .unset, .unset, .unset, .unset] [])) _
    refine XS.iloadN X0.here hx rfl (hb hby at_13) rfl ?_
    show Steps p.tables e below (s₁.setTop (mkF m 14 #[.val (.int p1), .val (.int p2), .val (.int p3), .val (.int 4), .val (.int vb), .unset, .unset, .unset, .unset] [(.int p3)])) _
    refine XS.iconst X0.here hx rfl (hb hby at_14) ?_
    show Steps p.tables e below (s₁.setTop (mkF m 15 #[.val (.int p1), .val (.int p2), .val (.int p3), .val (.int 4), .val (.int vb), .unset, .unset, .unset, .unset] [(.int 3), (.int p3)])) _
    refine XS.iand X0.here hx rfl (hb hby at_15) rfl ?_
    show Steps p.tables e below (s₁.setTop (mkF m 16 #[.val (.int p1), .val (.int p2), .val (.int p3), .val (.int 4), .val (.int vb), .unset, .unset, .unset, .unset] [(.int (p3 &&& (3 : Int32)))])) _
    rw [hva]
    show Steps p.tables e below (s₁.setTop (mkF m 16 #[.val (.int p1), .val (.int p2), .val (.int p3), .val (.int 4), .val (.int vb), .unset, .unset, .unset, .unset] [(.int va)])) _
    refine XS.istore X0.here hx rfl (hb hby at_16) rfl (l' := #[.val (.int p1), .val (.int p2), .val (.int p3), .val (.int 4), .val (.int vb), .val (.int va), .unset, .unset, .unset]) rfl ?_
    show Steps p.tables e below (s₁.setTop (mkF m 18 #[.val (.int p1), .val (.int p2), .val (.int p3), .val (.int 4), .val (.int vb), .val (.int va), .unset, .unset, .unset] [])) _
    refine XS.iloadN X0.here hx rfl (hb hby at_18) rfl ?_
    show Steps p.tables e below (s₁.setTop (mkF m 19 #[.val (.int p1), .val (.int p2), .val (.int p3), .val (.int 4), .val (.int vb), .val (.int va), .unset, .unset, .unset] [(.int 4)])) _
    refine XS.ifYes X0.here hx rfl (pc0 := 19) (pc' := 34) rfl (hb hby at_19) rfl ((if0 _ _).trans (feq (by decide : ¬ ((4 : Int32) = (0 : Int32)))).2) (by decide) (by decide) ?_
    show Steps p.tables e below (s₁.setTop (mkF m 34 #[.val (.int p1), .val (.int p2), .val (.int p3), .val (.int 4), .val (.int vb), .val (.int va), .unset, .unset, .unset] [])) _
    refine XS.iloadN X0.here hx rfl (hb hby at_34) rfl ?_
    show Steps p.tables e below (s₁.setTop (mkF m 35 #[.val (.int p1), .val (.int p2), .val (.int p3), .val (.int 4), .val (.int vb), .val (.int va), .unset, .unset, .unset] [(.int 4)])) _
    refine XS.iconst X0.here hx rfl (hb hby at_35) ?_
    show Steps p.tables e below (s₁.setTop (mkF m 36 #[.val (.int p1), .val (.int p2), .val (.int p3), .val (.int 4), .val (.int vb), .val (.int va), .unset, .unset, .unset] [(.int 1), (.int 4)])) _
    refine XS.icmpYes X0.here hx rfl (pc0 := 36) (pc' := 52) rfl (hb hby at_36) rfl (feq (by decide : ¬ ((4 : Int32) = (1 : Int32)))).2 (by decide) (by decide) ?_
    show Steps p.tables e below (s₁.setTop (mkF m 52 #[.val (.int p1), .val (.int p2), .val (.int p3), .val (.int 4), .val (.int vb), .val (.int va), .unset, .unset, .unset] [])) _
    refine XS.iloadN X0.here hx rfl (hb hby at_52) rfl ?_
    show Steps p.tables e below (s₁.setTop (mkF m 53 #[.val (.int p1), .val (.int p2), .val (.int p3), .val (.int 4), .val (.int vb), .val (.int va), .unset, .unset, .unset] [(.int 4)])) _
    refine XS.iconst X0.here hx rfl (hb hby at_53) ?_
    show Steps p.tables e below (s₁.setTop (mkF m 54 #[.val (.int p1), .val (.int p2), .val (.int p3), .val (.int 4), .val (.int vb), .val (.int va), .unset, .unset, .unset] [(.int 2), (.int 4)])) _
    refine XS.icmpYes X0.here hx rfl (pc0 := 54) (pc' := 70) rfl (hb hby at_54) rfl (feq (by decide : ¬ ((4 : Int32) = (2 : Int32)))).2 (by decide) (by decide) ?_
    show Steps p.tables e below (s₁.setTop (mkF m 70 #[.val (.int p1), .val (.int p2), .val (.int p3), .val (.int 4), .val (.int vb), .val (.int va), .unset, .unset, .unset] [])) _
    refine XS.iloadN X0.here hx rfl (hb hby at_70) rfl ?_
    show Steps p.tables e below (s₁.setTop (mkF m 71 #[.val (.int p1), .val (.int p2), .val (.int p3), .val (.int 4), .val (.int vb), .val (.int va), .unset, .unset, .unset] [(.int 4)])) _
    refine XS.iconst X0.here hx rfl (hb hby at_71) ?_
    show Steps p.tables e below (s₁.setTop (mkF m 72 #[.val (.int p1), .val (.int p2), .val (.int p3), .val (.int 4), .val (.int vb), .val (.int va), .unset, .unset, .unset] [(.int 3), (.int 4)])) _
    refine XS.icmpYes X0.here hx rfl (pc0 := 72) (pc' := 88) rfl (hb hby at_72) rfl (feq (by decide : ¬ ((4 : Int32) = (3 : Int32)))).2 (by decide) (by decide) ?_
    show Steps p.tables e below (s₁.setTop (mkF m 88 #[.val (.int p1), .val (.int p2), .val (.int p3), .val (.int 4), .val (.int vb), .val (.int va), .unset, .unset, .unset] [])) _
    refine XS.iloadN X0.here hx rfl (hb hby at_88) rfl ?_
    show Steps p.tables e below (s₁.setTop (mkF m 89 #[.val (.int p1), .val (.int p2), .val (.int p3), .val (.int 4), .val (.int vb), .val (.int va), .unset, .unset, .unset] [(.int 4)])) _
    refine XS.iconst X0.here hx rfl (hb hby at_89) ?_
    show Steps p.tables e below (s₁.setTop (mkF m 90 #[.val (.int p1), .val (.int p2), .val (.int p3), .val (.int 4), .val (.int vb), .val (.int va), .unset, .unset, .unset] [(.int 4), (.int 4)])) _
    refine XS.icmpNo X0.here hx rfl (hb hby at_90) rfl (teq (by decide : (4 : Int32) = (4 : Int32))).2 ?_
    show Steps p.tables e below (s₁.setTop (mkF m 93 #[.val (.int p1), .val (.int p2), .val (.int p3), .val (.int 4), .val (.int vb), .val (.int va), .unset, .unset, .unset] [])) _
    refine st1 _ ?_
    show Steps p.tables e below (T1.setTop (mkF m 96 #[.val (.int p1), .val (.int p2), .val (.int p3), .val (.int 4), .val (.int vb), .val (.int va), .unset, .unset, .unset] [(.ref w_WORD_BOUNDARY)])) _
    refine XS.astore X1.here hx rfl (hb hby at_96) rfl rfl (l' := #[.val (.int p1), .val (.int p2), .val (.int p3), .val (.int 4), .val (.int vb), .val (.int va), .val (.ref w_WORD_BOUNDARY), .unset, .unset]) rfl ?_
    show Steps p.tables e below (T1.setTop (mkF m 98 #[.val (.int p1), .val (.int p2), .val (.int p3), .val (.int 4), .val (.int vb), .val (.int va), .val (.ref w_WORD_BOUNDARY), .unset, .unset] [])) _
    refine XS.sipush X1.here hx rfl (hb hby at_98) ?_
    show Steps p.tables e below (T1.setTop (mkF m 101 #[.val (.int p1), .val (.int p2), .val (.int p3), .val (.int 4), .val (.int vb), .val (.int va), .val (.ref w_WORD_BOUNDARY), .unset, .unset] [(.int 19268)])) _
    refine XS.istore X1.here hx rfl (hb hby at_101) rfl (l' := #[.val (.int p1), .val (.int p2), .val (.int p3), .val (.int 4), .val (.int vb), .val (.int va), .val (.ref w_WORD_BOUNDARY), .val (.int 19268), .unset]) rfl ?_
    show Steps p.tables e below (T1.setTop (mkF m 103 #[.val (.int p1), .val (.int p2), .val (.int p3), .val (.int 4), .val (.int vb), .val (.int va), .val (.ref w_WORD_BOUNDARY), .val (.int 19268), .unset] [])) _
    refine XS.goto X1.here hx rfl (pc0 := 103) (pc' := 115) rfl (hb hby at_103) (by decide) (by decide) ?_
    show Steps p.tables e below (T1.setTop (mkF m 115 #[.val (.int p1), .val (.int p2), .val (.int p3), .val (.int 4), .val (.int vb), .val (.int va), .val (.ref w_WORD_BOUNDARY), .val (.int 19268), .unset] [])) _
    refine XS.iload X1.here hx rfl (hb hby at_115) rfl ?_
    show Steps p.tables e below (T1.setTop (mkF m 117 #[.val (.int p1), .val (.int p2), .val (.int p3), .val (.int 4), .val (.int vb), .val (.int va), .val (.ref w_WORD_BOUNDARY), .val (.int 19268), .unset] [(.int 19268)])) _
    refine XS.iload X1.here hx rfl (hb hby at_117) rfl ?_
    show Steps p.tables e below (T1.setTop (mkF m 119 #[.val (.int p1), .val (.int p2), .val (.int p3), .val (.int 4), .val (.int vb), .val (.int va), .val (.ref w_WORD_BOUNDARY), .val (.int 19268), .unset] [(.int vb), (.int 19268)])) _
    refine XS.iconst X1.here hx rfl (hb hby at_119) ?_
    show Steps p.tables e below (T1.setTop (mkF m 120 #[.val (.int p1), .val (.int p2), .val (.int p3), .val (.int 4), .val (.int vb), .val (.int va), .val (.ref w_WORD_BOUNDARY), .val (.int 19268), .unset] [(.int 4), (.int vb), (.int 19268)])) _
    refine XS.imul X1.here hx rfl (hb hby at_120) rfl ?_
    show Steps p.tables e below (T1.setTop (mkF m 121 #[.val (.int p1), .val (.int p2), .val (.int p3), .val (.int 4), .val (.int vb), .val (.int va), .val (.ref w_WORD_BOUNDARY), .val (.int 19268), .unset] [(.int (vb * (4 : Int32))), (.int 19268)])) _
    refine XS.iload X1.here hx rfl (hb hby at_121) rfl ?_
    show Steps p.tables e below (T1.setTop (mkF m 123 #[.val (.int p1), .val (.int p2), .val (.int p3), .val (.int 4), .val (.int vb), .val (.int va), .val (.ref w_WORD_BOUNDARY), .val (.int 19268), .unset] [(.int va), (.int (vb * (4 : Int32))), (.int 19268)])) _
    refine XS.iadd X1.here hx rfl (hb hby at_123) rfl ?_
    show Steps p.tables e below (T1.setTop (mkF m 124 #[.val (.int p1), .val (.int p2), .val (.int p3), .val (.int 4), .val (.int vb), .val (.int va), .val (.ref w_WORD_BOUNDARY), .val (.int 19268), .unset] [(.int ((vb * (4 : Int32)) + va)), (.int 19268)])) _
    refine XS.iushr X1.here hx rfl (hb hby at_124) rfl ?_
    show Steps p.tables e below (T1.setTop (mkF m 125 #[.val (.int p1), .val (.int p2), .val (.int p3), .val (.int 4), .val (.int vb), .val (.int va), .val (.ref w_WORD_BOUNDARY), .val (.int 19268), .unset] [(.int (((19268 : Int32).toUInt32 >>> (((vb * (4 : Int32)) + va) &&& 31).toUInt32).toInt32))])) _
    refine XS.iconst X1.here hx rfl (hb hby at_125) ?_
    show Steps p.tables e below (T1.setTop (mkF m 126 #[.val (.int p1), .val (.int p2), .val (.int p3), .val (.int 4), .val (.int vb), .val (.int va), .val (.ref w_WORD_BOUNDARY), .val (.int 19268), .unset] [(.int 1), (.int (((19268 : Int32).toUInt32 >>> (((vb * (4 : Int32)) + va) &&& 31).toUInt32).toInt32))])) _
    refine XS.iand X1.here hx rfl (hb hby at_126) rfl ?_
    show Steps p.tables e below (T1.setTop (mkF m 127 #[.val (.int p1), .val (.int p2), .val (.int p3), .val (.int 4), .val (.int vb), .val (.int va), .val (.ref w_WORD_BOUNDARY), .val (.int 19268), .unset] [(.int ((((19268 : Int32).toUInt32 >>> (((vb * (4 : Int32)) + va) &&& 31).toUInt32).toInt32) &&& (1 : Int32)))])) _
    rw [he]
    show Steps p.tables e below (T1.setTop (mkF m 127 #[.val (.int p1), .val (.int p2), .val (.int p3), .val (.int 4), .val (.int vb), .val (.int va), .val (.ref w_WORD_BOUNDARY), .val (.int 19268), .unset] [(.int 1)])) _
    refine XS.ifNo X1.here hx rfl (hb hby at_127) rfl ((if0 _ _).trans (feq (by decide : ¬ ((1 : Int32) = (0 : Int32)))).1) ?_
    show Steps p.tables e below (T1.setTop (mkF m 130 #[.val (.int p1), .val (.int p2), .val (.int p3), .val (.int 4), .val (.int vb), .val (.int va), .val (.ref w_WORD_BOUNDARY), .val (.int 19268), .unset] [])) _
    refine XS.iconst X1.here hx rfl (hb hby at_130) ?_
    show Steps p.tables e below (T1.setTop (mkF m 131 #[.val (.int p1), .val (.int p2), .val (.int p3), .val (.int 4), .val (.int vb), .val (.int va), .val (.ref w_WORD_BOUNDARY), .val (.int 19268), .unset] [(.int 1)])) _
    refine XS.goto X1.here hx rfl (pc0 := 131) (pc' := 135) rfl (hb hby at_131) (by decide) (by decide) ?_
    show Steps p.tables e below (T1.setTop (mkF m 135 #[.val (.int p1), .val (.int p2), .val (.int p3), .val (.int 4), .val (.int vb), .val (.int va), .val (.ref w_WORD_BOUNDARY), .val (.int 19268), .unset] [(.int 1)])) _
    refine XS.istore X1.here hx rfl (hb hby at_135) rfl (l' := #[.val (.int p1), .val (.int p2), .val (.int p3), .val (.int 4), .val (.int vb), .val (.int va), .val (.ref w_WORD_BOUNDARY), .val (.int 19268), .val (.int 1)]) rfl ?_
    show Steps p.tables e below (T1.setTop (mkF m 137 #[.val (.int p1), .val (.int p2), .val (.int p3), .val (.int 4), .val (.int vb), .val (.int va), .val (.ref w_WORD_BOUNDARY), .val (.int 19268), .val (.int 1)] [])) _
    refine XS.aload X1.here hx rfl (hb hby at_137) rfl rfl ?_
    show Steps p.tables e below (T1.setTop (mkF m 139 #[.val (.int p1), .val (.int p2), .val (.int p3), .val (.int 4), .val (.int vb), .val (.int va), .val (.ref w_WORD_BOUNDARY), .val (.int 19268), .val (.int 1)] [(.ref w_WORD_BOUNDARY)])) _
    refine XS.iload X1.here hx rfl (hb hby at_139) rfl ?_
    show Steps p.tables e below (T1.setTop (mkF m 141 #[.val (.int p1), .val (.int p2), .val (.int p3), .val (.int 4), .val (.int vb), .val (.int va), .val (.ref w_WORD_BOUNDARY), .val (.int 19268), .val (.int 1)] [(.int vb), (.ref w_WORD_BOUNDARY)])) _
    refine XS.iload X1.here hx rfl (hb hby at_141) rfl ?_
    show Steps p.tables e below (T1.setTop (mkF m 143 #[.val (.int p1), .val (.int p2), .val (.int p3), .val (.int 4), .val (.int vb), .val (.int va), .val (.ref w_WORD_BOUNDARY), .val (.int 19268), .val (.int 1)] [(.int va), (.int vb), (.ref w_WORD_BOUNDARY)])) _
    refine st2.trans ?_
    show Steps p.tables e below (T2.setTop (mkF m 146 #[.val (.int p1), .val (.int p2), .val (.int p3), .val (.int 4), .val (.int vb), .val (.int va), .val (.ref w_WORD_BOUNDARY), .val (.int 19268), .val (.int 1)] [(.int 1)])) _
    refine XS.iload X2.here hx rfl (hb hby at_146) rfl ?_
    show Steps p.tables e below (T2.setTop (mkF m 148 #[.val (.int p1), .val (.int p2), .val (.int p3), .val (.int 4), .val (.int vb), .val (.int va), .val (.ref w_WORD_BOUNDARY), .val (.int 19268), .val (.int 1)] [(.int 1), (.int 1)])) _
    refine XS.icmpNo X2.here hx rfl (hb hby at_148) rfl (teq (by decide : (1 : Int32) = (1 : Int32))).2 ?_
    show Steps p.tables e below (T2.setTop (mkF m 151 #[.val (.int p1), .val (.int p2), .val (.int p3), .val (.int 4), .val (.int vb), .val (.int va), .val (.ref w_WORD_BOUNDARY), .val (.int 19268), .val (.int 1)] [])) _
    refine XS.iconst X2.here hx rfl (hb hby at_151) ?_
    show Steps p.tables e below (T2.setTop (mkF m 152 #[.val (.int p1), .val (.int p2), .val (.int p3), .val (.int 4), .val (.int vb), .val (.int va), .val (.ref w_WORD_BOUNDARY), .val (.int 19268), .val (.int 1)] [(.int 1)])) _
    refine XS.goto X2.here hx rfl (pc0 := 152) (pc' := 156) rfl (hb hby at_152) (by decide) (by decide) ?_
    show Steps p.tables e below (T2.setTop (mkF m 156 #[.val (.int p1), .val (.int p2), .val (.int p3), .val (.int 4), .val (.int vb), .val (.int va), .val (.ref w_WORD_BOUNDARY), .val (.int 19268), .val (.int 1)] [(.int 1)])) _
    exact retN X2 hx (t := .boolean) Bd.returns (by simp) (hb hby at_156) hr
  · show Q0_k4ft Z p1 p2 p3 vb va w_WORD_BOUNDARY h0 n0 _ T2.heap _
    rw [e2]
    exact ⟨rfl, N2, rfl⟩
def Q1_w_WORD_BOUNDARY_vb_va_rtf (Z : State) (w_WORD_BOUNDARY : Addr) (vb : Int32) (va : Int32) (h0 : Heap) (n0 : Nat) (v : Option Value) (h : Heap) (L : List Loc) : Prop := v = some (.int 1) ∧ Fr n0 L ∧ h = h0
set_option maxRecDepth 65536 in
set_option maxHeartbeats 40000000 in
theorem rm1_w_WORD_BOUNDARY_vb_va_rtf (l : Launch) (Z : State) (a0 : Array Value) (hw : ∀ d ∈ tables_1, d.before a0 Z = true) (ws : List Jvm.Cond) (w_WORD_BOUNDARY : Addr) (vb : Int32) (va : Int32) (h0 : Heap) (n0 : Nat) (Z0 : n0 ≤ h0.size) (F_ordinal_w_WORD_BOUNDARY : Fld Z h0 w_WORD_BOUNDARY "java/lang/Enum" "ordinal" "I" (.int 4)) (E_w_WORD_BOUNDARY : Exa Z h0 w_WORD_BOUNDARY "com/example/termwell/termwell/core/text/RegexNode$Anchor") (hc114 : ¬ (vb = (2 : Int32))) (hc124 : va = (2 : Int32)) :
    MetFree l (⟨"com/example/termwell/termwell/core/text/RegexNode$Anchor", "holds", "(II)Z"⟩ : MethodName) (head1 (Jvm.Cond.code (⟨"com/example/termwell/termwell/core/text/RegexNode$Anchor", "holds", "(II)Z"⟩ : MethodName) prog_28_method_5_code 3 (some .boolean) :: ws) ({ frames := 1, cells := 0, slots := 0, locals := 12 } : Room)) (fun a U => a = #[(.ref w_WORD_BOUNDARY), (.int vb), (.int va)] ∧ Z.Warmed39 U.vm ∧ U.heap = h0) (fun _ _ _ _ _ => True) (fun _ U o U' => ∃ v L, o = .returned v ∧ Q1_w_WORD_BOUNDARY_vb_va_rtf Z w_WORD_BOUNDARY vb va h0 n0 v U'.heap L ∧ FrameEnd U o U' L ({ frames := 1, cells := 0, slots := 0, locals := 12 } : Room).cells ({ frames := 1, cells := 0, slots := 0, locals := 12 } : Room).slots) := by
  refine MetFree.of_bodySF (plainFor_of_name pn_1) hisR ?_
  intro p e s m args below meth c s₁ Bd hml0 hP hK
  obtain ⟨rfl, hZ, hh⟩ := hP
  have hx := Bd.exec
  have hby := Bd.bytes
  have hml : c.maxLocals = 3 := hml0
  have hown : s.vm.findClass "com/example/termwell/termwell/core/text/RegexNode$Anchor" = some m.cls := findClass_of_methodNamed Bd.named
  have hnm := (name_of_methodNamed Bd.named Bd.method).1
  have X0 : Stand p l e ({ frames := 1, cells := 0, slots := 0, locals := 12 } : Room) s m #[(.ref w_WORD_BOUNDARY), (.int vb), (.int va)] below meth c s₁ [] 0 0 := Stand.of_body Bd
  have e0 : s₁.heap = h0 := by rw [← hh, Bd.state]; rfl
  have N0 := Fr.nil n0
  have pre0 : ∀ t, Steps p.tables e below (s₁.setTop (mkF m 0 #[.val (.ref w_WORD_BOUNDARY), .val (.int vb), .val (.int va)] [])) t → Steps p.tables e below (s₁.setTop (entryFrame m #[(.ref w_WORD_BOUNDARY), (.int vb), (.int va)] 3)) t := fun t k => castTop (by first | (simp [entryFrame, mkF, argsToLocals, Value.category]; done) | rfl) k
  obtain ⟨cq1, kq1, q1a, q1b, q1c⟩ := isOf hZ e0 E_w_WORD_BOUNDARY
  obtain ⟨_, _, ⟨T1, L1, k1, n1⟩, -, X1, ⟨Lc1, hQ1, l1, y1, z1⟩, st1⟩ := X0.virtualBackUp hx (x := (⟨"com/example/termwell/termwell/core/text/RegexNode$Anchor", "ordinal", "()I"⟩ : MethodName)) (y := (⟨"java/lang/Enum", "ordinal", "()I"⟩ : MethodName)) (owner := "java/lang/Enum") hown (mvT hZ (hw _ (List.mem_of_getElem? (i := 9) rfl))) (mvT hZ (hw _ (List.mem_of_getElem? (i := 10) rfl))) (mvT hZ (hw _ (List.mem_of_getElem? (i := 11) rfl))) (by decide) (mvT hZ (hw _ (List.mem_of_getElem? (i := 13) rfl))) (mvT hZ (hw _ (List.mem_of_getElem? (i := 12) rfl))) (backOf (W := 0) (rm2_w_WORD_BOUNDARY l Z a0 hw [] w_WORD_BOUNDARY h0 n0 Z0 F_ordinal_w_WORD_BOUNDARY) hZ (hw _ (List.mem_of_getElem? (i := 15) rfl)) (hw _ (List.mem_of_getElem? (i := 14) rfl)) (by decide) (by decide)) q1a q1c (g := (mkF m 1 #[.val (.ref w_WORD_BOUNDARY), .val (.int vb), .val (.int va)] [(.ref w_WORD_BOUNDARY)])) rfl (by rw [hml]; rfl) (Steps.refl _) (argsL := []) (rest := []) (lenOf pd___I rfl) rfl (by show 2 * 0 + _ ≤ _; exact Nat.le_of_eq rfl) (hb hby d1_1) (fun _ _ => ⟨rfl, e0, (by decide : 0 + 0 ≤ _), (by decide : 0 + 0 ≤ _)⟩)
  dsimp only [Pt.U, Pt.locs, Pt.cells, Pt.slots] at X1 l1 y1 z1 st1 hQ1
  subst l1 y1 z1
  obtain ⟨rfl, N1q, e1⟩ := hQ1
  have N1 := Fr.app N0 N1q
  obtain ⟨fs, hr, hrun, hended, hW, hsame⟩ := X1.leave (v := some (.int 1)) (fun h => by rw [Bd.returns] at h; cases h)
  refine ⟨_, _, pre0 _ ?_, hrun, hended, _, _, rfl, ?_, ⟨_, rfl⟩, hW, hsame.mono (by decide) (by decide)⟩
  · show Steps p.tables e below (s₁.setTop (mkF m 0 #[.val (.ref w_WORD_BOUNDARY), .val (.int vb), .val (.int va)] [])) _
    refine XS.aloadN X0.here hx rfl (hb hby d1_0) rfl rfl ?_
    show Steps p.tables e below (s₁.setTop (mkF m 1 #[.val (.ref w_WORD_BOUNDARY), .val (.int vb), .val (.int va)] [(.ref w_WORD_BOUNDARY)])) _
    refine st1.trans ?_
    show Steps p.tables e below (T1.setTop (mkF m 4 #[.val (.ref w_WORD_BOUNDARY), .val (.int vb), .val (.int va)] [(.int 4)])) _
    refine XS.tswIn X1.here hx rfl (pc0 := 4) (pc' := 112) rfl (hb hby d1_4) rfl (by decide) (o := 108) (by decide) (by decide) (by decide) ?_
    show Steps p.tables e below (T1.setTop (mkF m 112 #[.val (.ref w_WORD_BOUNDARY), .val (.int vb), .val (.int va)] [])) _
    refine XS.iloadN X1.here hx rfl (hb hby d1_112) rfl ?_
    show Steps p.tables e below (T1.setTop (mkF m 113 #[.val (.ref w_WORD_BOUNDARY), .val (.int vb), .val (.int va)] [(.int vb)])) _
    refine XS.iconst X1.here hx rfl (hb hby d1_113) ?_
    show Steps p.tables e below (T1.setTop (mkF m 114 #[.val (.ref w_WORD_BOUNDARY), .val (.int vb), .val (.int va)] [(.int 2), (.int vb)])) _
    refine XS.icmpYes X1.here hx rfl (pc0 := 114) (pc' := 121) rfl (hb hby d1_114) rfl (feq hc114).2 (by decide) (by decide) ?_
    show Steps p.tables e below (T1.setTop (mkF m 121 #[.val (.ref w_WORD_BOUNDARY), .val (.int vb), .val (.int va)] [])) _
    refine XS.iconst X1.here hx rfl (hb hby d1_121) ?_
    show Steps p.tables e below (T1.setTop (mkF m 122 #[.val (.ref w_WORD_BOUNDARY), .val (.int vb), .val (.int va)] [(.int 0)])) _
    refine XS.iloadN X1.here hx rfl (hb hby d1_122) rfl ?_
    show Steps p.tables e below (T1.setTop (mkF m 123 #[.val (.ref w_WORD_BOUNDARY), .val (.int vb), .val (.int va)] [(.int va), (.int 0)])) _
    refine XS.iconst X1.here hx rfl (hb hby d1_123) ?_
    show Steps p.tables e below (T1.setTop (mkF m 124 #[.val (.ref w_WORD_BOUNDARY), .val (.int vb), .val (.int va)] [(.int 2), (.int va), (.int 0)])) _
    refine XS.icmpNo X1.here hx rfl (hb hby d1_124) rfl (teq hc124).2 ?_
    show Steps p.tables e below (T1.setTop (mkF m 127 #[.val (.ref w_WORD_BOUNDARY), .val (.int vb), .val (.int va)] [(.int 0)])) _
    refine XS.iconst X1.here hx rfl (hb hby d1_127) ?_
    show Steps p.tables e below (T1.setTop (mkF m 128 #[.val (.ref w_WORD_BOUNDARY), .val (.int vb), .val (.int va)] [(.int 1), (.int 0)])) _
    refine XS.goto X1.here hx rfl (pc0 := 128) (pc' := 132) rfl (hb hby d1_128) (by decide) (by decide) ?_
    show Steps p.tables e below (T1.setTop (mkF m 132 #[.val (.ref w_WORD_BOUNDARY), .val (.int vb), .val (.int va)] [(.int 1), (.int 0)])) _
    refine XS.icmpNo X1.here hx rfl (hb hby d1_132) rfl (feq (by decide : ¬ ((0 : Int32) = (1 : Int32)))).1 ?_
    show Steps p.tables e below (T1.setTop (mkF m 135 #[.val (.ref w_WORD_BOUNDARY), .val (.int vb), .val (.int va)] [])) _
    refine XS.iconst X1.here hx rfl (hb hby d1_135) ?_
    show Steps p.tables e below (T1.setTop (mkF m 136 #[.val (.ref w_WORD_BOUNDARY), .val (.int vb), .val (.int va)] [(.int 1)])) _
    refine XS.goto X1.here hx rfl (pc0 := 136) (pc' := 171) rfl (hb hby d1_136) (by decide) (by decide) ?_
    show Steps p.tables e below (T1.setTop (mkF m 171 #[.val (.ref w_WORD_BOUNDARY), .val (.int vb), .val (.int va)] [(.int 1)])) _
    exact retN X1 hx (t := .boolean) Bd.returns (by simp) (hb hby d1_171) hr
  · show Q1_w_WORD_BOUNDARY_vb_va_rtf Z w_WORD_BOUNDARY vb va h0 n0 _ T1.heap _
    rw [e1]
    exact ⟨rfl, N1, rfl⟩
def Q0_k4tf (Z : State) (p1 : Int32) (p2 : Int32) (p3 : Int32) (vb : Int32) (va : Int32) (w_WORD_BOUNDARY : Addr) (h0 : Heap) (n0 : Nat) (v : Option Value) (h : Heap) (L : List Loc) : Prop := v = some (.int 1) ∧ Fr n0 L ∧ h = h0
set_option maxRecDepth 65536 in
set_option maxHeartbeats 40000000 in
theorem rm0_k4tf (l : Launch) (Z : State) (a0 : Array Value) (hw : ∀ d ∈ tables_1, d.before a0 Z = true) (ws : List Jvm.Cond) (p1 : Int32) (p2 : Int32) (p3 : Int32) (vb : Int32) (va : Int32) (w_WORD_BOUNDARY : Addr) (h0 : Heap) (n0 : Nat) (Z0 : n0 ≤ h0.size) (hk : ((p1 &&& (2147483647 : Int32)) % (6 : Int32)) = (4 : Int32)) (hvb : (p2 &&& (3 : Int32)) = vb) (hva : (p3 &&& (3 : Int32)) = va) (S_WORD_BOUNDARY : Sta Z h0 "com/example/termwell/termwell/core/text/RegexNode$Anchor" "WORD_BOUNDARY" "Lcom/example/termwell/termwell/core/text/RegexNode$Anchor;" (.ref w_WORD_BOUNDARY)) (he : ((((19268 : Int32).toUInt32 >>> (((vb * (4 : Int32)) + va) &&& 31).toUInt32).toInt32) &&& (1 : Int32)) = (1 : Int32)) (F_ordinal_w_WORD_BOUNDARY : Fld Z h0 w_WORD_BOUNDARY "java/lang/Enum" "ordinal" "I" (.int 4)) (E_w_WORD_BOUNDARY : Exa Z h0 w_WORD_BOUNDARY "com/example/termwell/termwell/core/text/RegexNode$Anchor") (hc114 : ¬ (vb = (2 : Int32))) (hc124 : va = (2 : Int32)) :
    MetFree l x (head1 (Jvm.Cond.code x code maxLocals ret :: ws) room_1) (fun a U => a = #[(.int p1), (.int p2), (.int p3)] ∧ Z.Warmed39 U.vm ∧ U.heap = h0) (fun _ _ _ _ _ => True) (fun _ U o U' => ∃ v L, o = .returned v ∧ Q0_k4tf Z p1 p2 p3 vb va w_WORD_BOUNDARY h0 n0 v U'.heap L ∧ FrameEnd U o U' L room_1.cells room_1.slots) := by
  refine MetFree.of_bodySF (plainFor_of_name pn_0) hisR ?_
  intro p e s m args below meth c s₁ Bd hml0 hP hK
  obtain ⟨rfl, hZ, hh⟩ := hP
  have hx := Bd.exec
  have hby := Bd.bytes
  have hml : c.maxLocals = 9 := hml0
  have hown : s.vm.findClass "com/example/termwell/termwell/core/text/AnchorHoldsPinLaw" = some m.cls := findClass_of_methodNamed Bd.named
  have hnm := (name_of_methodNamed Bd.named Bd.method).1
  have X0 : Stand p l e room_1 s m #[(.int p1), (.int p2), (.int p3)] below meth c s₁ [] 0 0 := Stand.of_body Bd
  have e0 : s₁.heap = h0 := by rw [← hh, Bd.state]; rfl
  have N0 := Fr.nil n0
  have pre0 : ∀ t, Steps p.tables e below (s₁.setTop (mkF m 0 #[.val (.int p1), .val (.int p2), .val (.int p3), .unset, .unset, .unset, .unset, .unset, .unset] [])) t → Steps p.tables e below (s₁.setTop (entryFrame m #[(.int p1), (.int p2), (.int p3)] maxLocals)) t := fun t k => castTop (by first | (simp [entryFrame, mkF, argsToLocals, Value.category, maxLocals]; done) | rfl) k
  obtain ⟨T1, X1, e1, st1⟩ := getS2 X0 hx hZ hown (host := "") (Or.inl (hw _ (List.mem_of_getElem? (i := 27) rfl))) Via.refl e0 S_WORD_BOUNDARY (g := (mkF m 93 #[.val (.int p1), .val (.int p2), .val (.int p3), .val (.int 4), .val (.int vb), .val (.int va), .unset, .unset, .unset] [])) rfl (hb hby at_93)
  obtain ⟨cq2, kq2, q2a, q2b, q2c⟩ := isOf hZ e1 E_w_WORD_BOUNDARY
  obtain ⟨_, _, ⟨T2, L2, k2, n2⟩, -, X2, ⟨Lc2, hQ2, l2, y2, z2⟩, st2⟩ := X1.virtualBack hx (y := (⟨"com/example/termwell/termwell/core/text/RegexNode$Anchor", "holds", "(II)Z"⟩ : MethodName)) (z := (⟨"com/example/termwell/termwell/core/text/RegexNode$Anchor", "holds", "(II)Z"⟩ : MethodName)) hown (mvT hZ (hw _ (List.mem_of_getElem? (i := 4) rfl))) (mvT hZ (hw _ (List.mem_of_getElem? (i := 5) rfl))) (notFace_of_selects (args := #[]) (mvT hZ (hw _ (List.mem_of_getElem? (i := 7) rfl)))) (mvT hZ (hw _ (List.mem_of_getElem? (i := 7) rfl))) (mvT hZ (hw _ (List.mem_of_getElem? (i := 6) rfl))) (by decide) (backOf (W := 0) (rm1_w_WORD_BOUNDARY_vb_va_rtf l Z a0 hw [] w_WORD_BOUNDARY vb va h0 n0 Z0 F_ordinal_w_WORD_BOUNDARY E_w_WORD_BOUNDARY hc114 hc124) hZ (hw _ (List.mem_of_getElem? (i := 8) rfl)) (hw _ (List.mem_of_getElem? (i := 2) rfl)) (by decide) (by decide)) q2a q2c (g := (mkF m 143 #[.val (.int p1), .val (.int p2), .val (.int p3), .val (.int 4), .val (.int vb), .val (.int va), .val (.ref w_WORD_BOUNDARY), .val (.int 19268), .val (.int 1)] [(.int va), (.int vb), (.ref w_WORD_BOUNDARY)])) rfl (by rw [hml]; rfl) (Steps.refl _) (argsL := [(.int vb), (.int va)]) (rest := []) (lenOf pd__II_Z rfl) rfl (by show 2 * 0 + _ ≤ _; exact Nat.le_of_eq rfl) (hb hby at_143) (fun _ _ => ⟨rfl, e1, (by decide : 0 + 0 ≤ _), (by decide : 0 + 0 ≤ _)⟩)
  dsimp only [Pt.U, Pt.locs, Pt.cells, Pt.slots] at X2 l2 y2 z2 st2 hQ2
  subst l2 y2 z2
  obtain ⟨rfl, N2q, e2⟩ := hQ2
  have N2 := Fr.app N0 N2q
  obtain ⟨fs, hr, hrun, hended, hW, hsame⟩ := X2.leave (v := some (.int 1)) (fun h => by rw [Bd.returns] at h; cases h)
  refine ⟨_, _, pre0 _ ?_, hrun, hended, _, _, rfl, ?_, ⟨_, rfl⟩, hW, hsame.mono (by decide) (by decide)⟩
  · show Steps p.tables e below (s₁.setTop (mkF m 0 #[.val (.int p1), .val (.int p2), .val (.int p3), .unset, .unset, .unset, .unset, .unset, .unset] [])) _
    refine XS.iloadN X0.here hx rfl (hb hby at_0) rfl ?_
    show Steps p.tables e below (s₁.setTop (mkF m 1 #[.val (.int p1), .val (.int p2), .val (.int p3), .unset, .unset, .unset, .unset, .unset, .unset] [(.int p1)])) _
    refine X0.ldcInt hx hown (mvT hZ (hw _ (List.mem_of_getElem? (i := 0) rfl))) (g := (mkF m 1 #[.val (.int p1), .val (.int p2), .val (.int p3), .unset, .unset, .unset, .unset, .unset, .unset] [(.int p1)])) rfl (hb hby at_1) _ ?_
    show Steps p.tables e below (s₁.setTop (mkF m 3 #[.val (.int p1), .val (.int p2), .val (.int p3), .unset, .unset, .unset, .unset, .unset, .unset] [(.int 2147483647), (.int p1)])) _
    refine XS.iand X0.here hx rfl (hb hby at_3) rfl ?_
    show Steps p.tables e below (s₁.setTop (mkF m 4 #[.val (.int p1), .val (.int p2), .val (.int p3), .unset, .unset, .unset, .unset, .unset, .unset] [(.int (p1 &&& (2147483647 : Int32)))])) _
    refine XS.bipush X0.here hx rfl (hb hby at_4) ?_
    show Steps p.tables e below (s₁.setTop (mkF m 6 #[.val (.int p1), .val (.int p2), .val (.int p3), .unset, .unset, .unset, .unset, .unset, .unset] [(.int 6), (.int (p1 &&& (2147483647 : Int32)))])) _
    refine iremM X0 hx rfl (hb hby at_6) rfl (by decide) ?_
    show Steps p.tables e below (s₁.setTop (mkF m 7 #[.val (.int p1), .val (.int p2), .val (.int p3), .unset, .unset, .unset, .unset, .unset, .unset] [(.int ((p1 &&& (2147483647 : Int32)) % (6 : Int32)))])) _
    rw [hk]
    show Steps p.tables e below (s₁.setTop (mkF m 7 #[.val (.int p1), .val (.int p2), .val (.int p3), .unset, .unset, .unset, .unset, .unset, .unset] [(.int 4)])) _
    refine XS.istoreN X0.here hx rfl (hb hby at_7) rfl (l' := #[.val (.int p1), .val (.int p2), .val (.int p3), .val (.int 4), .unset, .unset, .unset, .unset, .unset]) rfl ?_
    show Steps p.tables e below (s₁.setTop (mkF m 8 #[.val (.int p1), .val (.int p2), .val (.int p3), .val (.int 4), .unset, .unset, .unset, .unset, .unset] [])) _
    refine XS.iloadN X0.here hx rfl (hb hby at_8) rfl ?_
    show Steps p.tables e below (s₁.setTop (mkF m 9 #[.val (.int p1), .val (.int p2), .val (.int p3), .val (.int 4), .unset, .unset, .unset, .unset, .unset] [(.int p2)])) _
    refine XS.iconst X0.here hx rfl (hb hby at_9) ?_
    show Steps p.tables e below (s₁.setTop (mkF m 10 #[.val (.int p1), .val (.int p2), .val (.int p3), .val (.int 4), .unset, .unset, .unset, .unset, .unset] [(.int 3), (.int p2)])) _
    refine XS.iand X0.here hx rfl (hb hby at_10) rfl ?_
    show Steps p.tables e below (s₁.setTop (mkF m 11 #[.val (.int p1), .val (.int p2), .val (.int p3), .val (.int 4), .unset, .unset, .unset, .unset, .unset] [(.int (p2 &&& (3 : Int32)))])) _
    rw [hvb]
    show Steps p.tables e below (s₁.setTop (mkF m 11 #[.val (.int p1), .val (.int p2), .val (.int p3), .val (.int 4), .unset, .unset, .unset, .unset, .unset] [(.int vb)])) _
    refine XS.istore X0.here hx rfl (hb hby at_11) rfl (l' := #[.val (.int p1), .val (.int p2), .val (.int p3), .val (.int 4), .val (.int vb), .unset, .unset, .unset, .unset]) rfl ?_
    show Steps p.tables e below (s₁.setTop (mkF m 13 #[.val (.int p1), .val (.int p2), .val (.int p3), .val (.int 4), .val (.int vb), .unset, .unset, .unset, .unset] [])) _
    refine XS.iloadN X0.here hx rfl (hb hby at_13) rfl ?_
    show Steps p.tables e below (s₁.setTop (mkF m 14 #[.val (.int p1), .val (.int p2), .val (.int p3), .val (.int 4), .val (.int vb), .unset, .unset, .unset, .unset] [(.int p3)])) _
    refine XS.iconst X0.here hx rfl (hb hby at_14) ?_
    show Steps p.tables e below (s₁.setTop (mkF m 15 #[.val (.int p1), .val (.int p2), .val (.int p3), .val (.int 4), .val (.int vb), .unset, .unset, .unset, .unset] [(.int 3), (.int p3)])) _
    refine XS.iand X0.here hx rfl (hb hby at_15) rfl ?_
    show Steps p.tables e below (s₁.setTop (mkF m 16 #[.val (.int p1), .val (.int p2), .val (.int p3), .val (.int 4), .val (.int vb), .unset, .unset, .unset, .unset] [(.int (p3 &&& (3 : Int32)))])) _
    rw [hva]
    show Steps p.tables e below (s₁.setTop (mkF m 16 #[.val (.int p1), .val (.int p2), .val (.int p3), .val (.int 4), .val (.int vb), .unset, .unset, .unset, .unset] [(.int va)])) _
    refine XS.istore X0.here hx rfl (hb hby at_16) rfl (l' := #[.val (.int p1), .val (.int p2), .val (.int p3), .val (.int 4), .val (.int vb), .val (.int va), .unset, .unset, .unset]) rfl ?_
    show Steps p.tables e below (s₁.setTop (mkF m 18 #[.val (.int p1), .val (.int p2), .val (.int p3), .val (.int 4), .val (.int vb), .val (.int va), .unset, .unset, .unset] [])) _
    refine XS.iloadN X0.here hx rfl (hb hby at_18) rfl ?_
    show Steps p.tables e below (s₁.setTop (mkF m 19 #[.val (.int p1), .val (.int p2), .val (.int p3), .val (.int 4), .val (.int vb), .val (.int va), .unset, .unset, .unset] [(.int 4)])) _
    refine XS.ifYes X0.here hx rfl (pc0 := 19) (pc' := 34) rfl (hb hby at_19) rfl ((if0 _ _).trans (feq (by decide : ¬ ((4 : Int32) = (0 : Int32)))).2) (by decide) (by decide) ?_
    show Steps p.tables e below (s₁.setTop (mkF m 34 #[.val (.int p1), .val (.int p2), .val (.int p3), .val (.int 4), .val (.int vb), .val (.int va), .unset, .unset, .unset] [])) _
    refine XS.iloadN X0.here hx rfl (hb hby at_34) rfl ?_
    show Steps p.tables e below (s₁.setTop (mkF m 35 #[.val (.int p1), .val (.int p2), .val (.int p3), .val (.int 4), .val (.int vb), .val (.int va), .unset, .unset, .unset] [(.int 4)])) _
    refine XS.iconst X0.here hx rfl (hb hby at_35) ?_
    show Steps p.tables e below (s₁.setTop (mkF m 36 #[.val (.int p1), .val (.int p2), .val (.int p3), .val (.int 4), .val (.int vb), .val (.int va), .unset, .unset, .unset] [(.int 1), (.int 4)])) _
    refine XS.icmpYes X0.here hx rfl (pc0 := 36) (pc' := 52) rfl (hb hby at_36) rfl (feq (by decide : ¬ ((4 : Int32) = (1 : Int32)))).2 (by decide) (by decide) ?_
    show Steps p.tables e below (s₁.setTop (mkF m 52 #[.val (.int p1), .val (.int p2), .val (.int p3), .val (.int 4), .val (.int vb), .val (.int va), .unset, .unset, .unset] [])) _
    refine XS.iloadN X0.here hx rfl (hb hby at_52) rfl ?_
    show Steps p.tables e below (s₁.setTop (mkF m 53 #[.val (.int p1), .val (.int p2), .val (.int p3), .val (.int 4), .val (.int vb), .val (.int va), .unset, .unset, .unset] [(.int 4)])) _
    refine XS.iconst X0.here hx rfl (hb hby at_53) ?_
    show Steps p.tables e below (s₁.setTop (mkF m 54 #[.val (.int p1), .val (.int p2), .val (.int p3), .val (.int 4), .val (.int vb), .val (.int va), .unset, .unset, .unset] [(.int 2), (.int 4)])) _
    refine XS.icmpYes X0.here hx rfl (pc0 := 54) (pc' := 70) rfl (hb hby at_54) rfl (feq (by decide : ¬ ((4 : Int32) = (2 : Int32)))).2 (by decide) (by decide) ?_
    show Steps p.tables e below (s₁.setTop (mkF m 70 #[.val (.int p1), .val (.int p2), .val (.int p3), .val (.int 4), .val (.int vb), .val (.int va), .unset, .unset, .unset] [])) _
    refine XS.iloadN X0.here hx rfl (hb hby at_70) rfl ?_
    show Steps p.tables e below (s₁.setTop (mkF m 71 #[.val (.int p1), .val (.int p2), .val (.int p3), .val (.int 4), .val (.int vb), .val (.int va), .unset, .unset, .unset] [(.int 4)])) _
    refine XS.iconst X0.here hx rfl (hb hby at_71) ?_
    show Steps p.tables e below (s₁.setTop (mkF m 72 #[.val (.int p1), .val (.int p2), .val (.int p3), .val (.int 4), .val (.int vb), .val (.int va), .unset, .unset, .unset] [(.int 3), (.int 4)])) _
    refine XS.icmpYes X0.here hx rfl (pc0 := 72) (pc' := 88) rfl (hb hby at_72) rfl (feq (by decide : ¬ ((4 : Int32) = (3 : Int32)))).2 (by decide) (by decide) ?_
    show Steps p.tables e below (s₁.setTop (mkF m 88 #[.val (.int p1), .val (.int p2), .val (.int p3), .val (.int 4), .val (.int vb), .val (.int va), .unset, .unset, .unset] [])) _
    refine XS.iloadN X0.here hx rfl (hb hby at_88) rfl ?_
    show Steps p.tables e below (s₁.setTop (mkF m 89 #[.val (.int p1), .val (.int p2), .val (.int p3), .val (.int 4), .val (.int vb), .val (.int va), .unset, .unset, .unset] [(.int 4)])) _
    refine XS.iconst X0.here hx rfl (hb hby at_89) ?_
    show Steps p.tables e below (s₁.setTop (mkF m 90 #[.val (.int p1), .val (.int p2), .val (.int p3), .val (.int 4), .val (.int vb), .val (.int va), .unset, .unset, .unset] [(.int 4), (.int 4)])) _
    refine XS.icmpNo X0.here hx rfl (hb hby at_90) rfl (teq (by decide : (4 : Int32) = (4 : Int32))).2 ?_
    show Steps p.tables e below (s₁.setTop (mkF m 93 #[.val (.int p1), .val (.int p2), .val (.int p3), .val (.int 4), .val (.int vb), .val (.int va), .unset, .unset, .unset] [])) _
    refine st1 _ ?_
    show Steps p.tables e below (T1.setTop (mkF m 96 #[.val (.int p1), .val (.int p2), .val (.int p3), .val (.int 4), .val (.int vb), .val (.int va), .unset, .unset, .unset] [(.ref w_WORD_BOUNDARY)])) _
    refine XS.astore X1.here hx rfl (hb hby at_96) rfl rfl (l' := #[.val (.int p1), .val (.int p2), .val (.int p3), .val (.int 4), .val (.int vb), .val (.int va), .val (.ref w_WORD_BOUNDARY), .unset, .unset]) rfl ?_
    show Steps p.tables e below (T1.setTop (mkF m 98 #[.val (.int p1), .val (.int p2), .val (.int p3), .val (.int 4), .val (.int vb), .val (.int va), .val (.ref w_WORD_BOUNDARY), .unset, .unset] [])) _
    refine XS.sipush X1.here hx rfl (hb hby at_98) ?_
    show Steps p.tables e below (T1.setTop (mkF m 101 #[.val (.int p1), .val (.int p2), .val (.int p3), .val (.int 4), .val (.int vb), .val (.int va), .val (.ref w_WORD_BOUNDARY), .unset, .unset] [(.int 19268)])) _
    refine XS.istore X1.here hx rfl (hb hby at_101) rfl (l' := #[.val (.int p1), .val (.int p2), .val (.int p3), .val (.int 4), .val (.int vb), .val (.int va), .val (.ref w_WORD_BOUNDARY), .val (.int 19268), .unset]) rfl ?_
    show Steps p.tables e below (T1.setTop (mkF m 103 #[.val (.int p1), .val (.int p2), .val (.int p3), .val (.int 4), .val (.int vb), .val (.int va), .val (.ref w_WORD_BOUNDARY), .val (.int 19268), .unset] [])) _
    refine XS.goto X1.here hx rfl (pc0 := 103) (pc' := 115) rfl (hb hby at_103) (by decide) (by decide) ?_
    show Steps p.tables e below (T1.setTop (mkF m 115 #[.val (.int p1), .val (.int p2), .val (.int p3), .val (.int 4), .val (.int vb), .val (.int va), .val (.ref w_WORD_BOUNDARY), .val (.int 19268), .unset] [])) _
    refine XS.iload X1.here hx rfl (hb hby at_115) rfl ?_
    show Steps p.tables e below (T1.setTop (mkF m 117 #[.val (.int p1), .val (.int p2), .val (.int p3), .val (.int 4), .val (.int vb), .val (.int va), .val (.ref w_WORD_BOUNDARY), .val (.int 19268), .unset] [(.int 19268)])) _
    refine XS.iload X1.here hx rfl (hb hby at_117) rfl ?_
    show Steps p.tables e below (T1.setTop (mkF m 119 #[.val (.int p1), .val (.int p2), .val (.int p3), .val (.int 4), .val (.int vb), .val (.int va), .val (.ref w_WORD_BOUNDARY), .val (.int 19268), .unset] [(.int vb), (.int 19268)])) _
    refine XS.iconst X1.here hx rfl (hb hby at_119) ?_
    show Steps p.tables e below (T1.setTop (mkF m 120 #[.val (.int p1), .val (.int p2), .val (.int p3), .val (.int 4), .val (.int vb), .val (.int va), .val (.ref w_WORD_BOUNDARY), .val (.int 19268), .unset] [(.int 4), (.int vb), (.int 19268)])) _
    refine XS.imul X1.here hx rfl (hb hby at_120) rfl ?_
    show Steps p.tables e below (T1.setTop (mkF m 121 #[.val (.int p1), .val (.int p2), .val (.int p3), .val (.int 4), .val (.int vb), .val (.int va), .val (.ref w_WORD_BOUNDARY), .val (.int 19268), .unset] [(.int (vb * (4 : Int32))), (.int 19268)])) _
    refine XS.iload X1.here hx rfl (hb hby at_121) rfl ?_
    show Steps p.tables e below (T1.setTop (mkF m 123 #[.val (.int p1), .val (.int p2), .val (.int p3), .val (.int 4), .val (.int vb), .val (.int va), .val (.ref w_WORD_BOUNDARY), .val (.int 19268), .unset] [(.int va), (.int (vb * (4 : Int32))), (.int 19268)])) _
    refine XS.iadd X1.here hx rfl (hb hby at_123) rfl ?_
    show Steps p.tables e below (T1.setTop (mkF m 124 #[.val (.int p1), .val (.int p2), .val (.int p3), .val (.int 4), .val (.int vb), .val (.int va), .val (.ref w_WORD_BOUNDARY), .val (.int 19268), .unset] [(.int ((vb * (4 : Int32)) + va)), (.int 19268)])) _
    refine XS.iushr X1.here hx rfl (hb hby at_124) rfl ?_
    show Steps p.tables e below (T1.setTop (mkF m 125 #[.val (.int p1), .val (.int p2), .val (.int p3), .val (.int 4), .val (.int vb), .val (.int va), .val (.ref w_WORD_BOUNDARY), .val (.int 19268), .unset] [(.int (((19268 : Int32).toUInt32 >>> (((vb * (4 : Int32)) + va) &&& 31).toUInt32).toInt32))])) _
    refine XS.iconst X1.here hx rfl (hb hby at_125) ?_
    show Steps p.tables e below (T1.setTop (mkF m 126 #[.val (.int p1), .val (.int p2), .val (.int p3), .val (.int 4), .val (.int vb), .val (.int va), .val (.ref w_WORD_BOUNDARY), .val (.int 19268), .unset] [(.int 1), (.int (((19268 : Int32).toUInt32 >>> (((vb * (4 : Int32)) + va) &&& 31).toUInt32).toInt32))])) _
    refine XS.iand X1.here hx rfl (hb hby at_126) rfl ?_
    show Steps p.tables e below (T1.setTop (mkF m 127 #[.val (.int p1), .val (.int p2), .val (.int p3), .val (.int 4), .val (.int vb), .val (.int va), .val (.ref w_WORD_BOUNDARY), .val (.int 19268), .unset] [(.int ((((19268 : Int32).toUInt32 >>> (((vb * (4 : Int32)) + va) &&& 31).toUInt32).toInt32) &&& (1 : Int32)))])) _
    rw [he]
    show Steps p.tables e below (T1.setTop (mkF m 127 #[.val (.int p1), .val (.int p2), .val (.int p3), .val (.int 4), .val (.int vb), .val (.int va), .val (.ref w_WORD_BOUNDARY), .val (.int 19268), .unset] [(.int 1)])) _
    refine XS.ifNo X1.here hx rfl (hb hby at_127) rfl ((if0 _ _).trans (feq (by decide : ¬ ((1 : Int32) = (0 : Int32)))).1) ?_
    show Steps p.tables e below (T1.setTop (mkF m 130 #[.val (.int p1), .val (.int p2), .val (.int p3), .val (.int 4), .val (.int vb), .val (.int va), .val (.ref w_WORD_BOUNDARY), .val (.int 19268), .unset] [])) _
    refine XS.iconst X1.here hx rfl (hb hby at_130) ?_
    show Steps p.tables e below (T1.setTop (mkF m 131 #[.val (.int p1), .val (.int p2), .val (.int p3), .val (.int 4), .val (.int vb), .val (.int va), .val (.ref w_WORD_BOUNDARY), .val (.int 19268), .unset] [(.int 1)])) _
    refine XS.goto X1.here hx rfl (pc0 := 131) (pc' := 135) rfl (hb hby at_131) (by decide) (by decide) ?_
    show Steps p.tables e below (T1.setTop (mkF m 135 #[.val (.int p1), .val (.int p2), .val (.int p3), .val (.int 4), .val (.int vb), .val (.int va), .val (.ref w_WORD_BOUNDARY), .val (.int 19268), .unset] [(.int 1)])) _
    refine XS.istore X1.here hx rfl (hb hby at_135) rfl (l' := #[.val (.int p1), .val (.int p2), .val (.int p3), .val (.int 4), .val (.int vb), .val (.int va), .val (.ref w_WORD_BOUNDARY), .val (.int 19268), .val (.int 1)]) rfl ?_
    show Steps p.tables e below (T1.setTop (mkF m 137 #[.val (.int p1), .val (.int p2), .val (.int p3), .val (.int 4), .val (.int vb), .val (.int va), .val (.ref w_WORD_BOUNDARY), .val (.int 19268), .val (.int 1)] [])) _
    refine XS.aload X1.here hx rfl (hb hby at_137) rfl rfl ?_
    show Steps p.tables e below (T1.setTop (mkF m 139 #[.val (.int p1), .val (.int p2), .val (.int p3), .val (.int 4), .val (.int vb), .val (.int va), .val (.ref w_WORD_BOUNDARY), .val (.int 19268), .val (.int 1)] [(.ref w_WORD_BOUNDARY)])) _
    refine XS.iload X1.here hx rfl (hb hby at_139) rfl ?_
    show Steps p.tables e below (T1.setTop (mkF m 141 #[.val (.int p1), .val (.int p2), .val (.int p3), .val (.int 4), .val (.int vb), .val (.int va), .val (.ref w_WORD_BOUNDARY), .val (.int 19268), .val (.int 1)] [(.int vb), (.ref w_WORD_BOUNDARY)])) _
    refine XS.iload X1.here hx rfl (hb hby at_141) rfl ?_
    show Steps p.tables e below (T1.setTop (mkF m 143 #[.val (.int p1), .val (.int p2), .val (.int p3), .val (.int 4), .val (.int vb), .val (.int va), .val (.ref w_WORD_BOUNDARY), .val (.int 19268), .val (.int 1)] [(.int va), (.int vb), (.ref w_WORD_BOUNDARY)])) _
    refine st2.trans ?_
    show Steps p.tables e below (T2.setTop (mkF m 146 #[.val (.int p1), .val (.int p2), .val (.int p3), .val (.int 4), .val (.int vb), .val (.int va), .val (.ref w_WORD_BOUNDARY), .val (.int 19268), .val (.int 1)] [(.int 1)])) _
    refine XS.iload X2.here hx rfl (hb hby at_146) rfl ?_
    show Steps p.tables e below (T2.setTop (mkF m 148 #[.val (.int p1), .val (.int p2), .val (.int p3), .val (.int 4), .val (.int vb), .val (.int va), .val (.ref w_WORD_BOUNDARY), .val (.int 19268), .val (.int 1)] [(.int 1), (.int 1)])) _
    refine XS.icmpNo X2.here hx rfl (hb hby at_148) rfl (teq (by decide : (1 : Int32) = (1 : Int32))).2 ?_
    show Steps p.tables e below (T2.setTop (mkF m 151 #[.val (.int p1), .val (.int p2), .val (.int p3), .val (.int 4), .val (.int vb), .val (.int va), .val (.ref w_WORD_BOUNDARY), .val (.int 19268), .val (.int 1)] [])) _
    refine XS.iconst X2.here hx rfl (hb hby at_151) ?_
    show Steps p.tables e below (T2.setTop (mkF m 152 #[.val (.int p1), .val (.int p2), .val (.int p3), .val (.int 4), .val (.int vb), .val (.int va), .val (.ref w_WORD_BOUNDARY), .val (.int 19268), .val (.int 1)] [(.int 1)])) _
    refine XS.goto X2.here hx rfl (pc0 := 152) (pc' := 156) rfl (hb hby at_152) (by decide) (by decide) ?_
    show Steps p.tables e below (T2.setTop (mkF m 156 #[.val (.int p1), .val (.int p2), .val (.int p3), .val (.int 4), .val (.int vb), .val (.int va), .val (.ref w_WORD_BOUNDARY), .val (.int 19268), .val (.int 1)] [(.int 1)])) _
    exact retN X2 hx (t := .boolean) Bd.returns (by simp) (hb hby at_156) hr
  · show Q0_k4tf Z p1 p2 p3 vb va w_WORD_BOUNDARY h0 n0 _ T2.heap _
    rw [e2]
    exact ⟨rfl, N2, rfl⟩
def Q1_w_WORD_BOUNDARY_vb_va_rtt (Z : State) (w_WORD_BOUNDARY : Addr) (vb : Int32) (va : Int32) (h0 : Heap) (n0 : Nat) (v : Option Value) (h : Heap) (L : List Loc) : Prop := v = some (.int 0) ∧ Fr n0 L ∧ h = h0
set_option maxRecDepth 65536 in
set_option maxHeartbeats 40000000 in
theorem rm1_w_WORD_BOUNDARY_vb_va_rtt (l : Launch) (Z : State) (a0 : Array Value) (hw : ∀ d ∈ tables_1, d.before a0 Z = true) (ws : List Jvm.Cond) (w_WORD_BOUNDARY : Addr) (vb : Int32) (va : Int32) (h0 : Heap) (n0 : Nat) (Z0 : n0 ≤ h0.size) (F_ordinal_w_WORD_BOUNDARY : Fld Z h0 w_WORD_BOUNDARY "java/lang/Enum" "ordinal" "I" (.int 4)) (E_w_WORD_BOUNDARY : Exa Z h0 w_WORD_BOUNDARY "com/example/termwell/termwell/core/text/RegexNode$Anchor") (hc114 : ¬ (vb = (2 : Int32))) (hc124 : ¬ (va = (2 : Int32))) :
    MetFree l (⟨"com/example/termwell/termwell/core/text/RegexNode$Anchor", "holds", "(II)Z"⟩ : MethodName) (head1 (Jvm.Cond.code (⟨"com/example/termwell/termwell/core/text/RegexNode$Anchor", "holds", "(II)Z"⟩ : MethodName) prog_28_method_5_code 3 (some .boolean) :: ws) ({ frames := 1, cells := 0, slots := 0, locals := 12 } : Room)) (fun a U => a = #[(.ref w_WORD_BOUNDARY), (.int vb), (.int va)] ∧ Z.Warmed39 U.vm ∧ U.heap = h0) (fun _ _ _ _ _ => True) (fun _ U o U' => ∃ v L, o = .returned v ∧ Q1_w_WORD_BOUNDARY_vb_va_rtt Z w_WORD_BOUNDARY vb va h0 n0 v U'.heap L ∧ FrameEnd U o U' L ({ frames := 1, cells := 0, slots := 0, locals := 12 } : Room).cells ({ frames := 1, cells := 0, slots := 0, locals := 12 } : Room).slots) := by
  refine MetFree.of_bodySF (plainFor_of_name pn_1) hisR ?_
  intro p e s m args below meth c s₁ Bd hml0 hP hK
  obtain ⟨rfl, hZ, hh⟩ := hP
  have hx := Bd.exec
  have hby := Bd.bytes
  have hml : c.maxLocals = 3 := hml0
  have hown : s.vm.findClass "com/example/termwell/termwell/core/text/RegexNode$Anchor" = some m.cls := findClass_of_methodNamed Bd.named
  have hnm := (name_of_methodNamed Bd.named Bd.method).1
  have X0 : Stand p l e ({ frames := 1, cells := 0, slots := 0, locals := 12 } : Room) s m #[(.ref w_WORD_BOUNDARY), (.int vb), (.int va)] below meth c s₁ [] 0 0 := Stand.of_body Bd
  have e0 : s₁.heap = h0 := by rw [← hh, Bd.state]; rfl
  have N0 := Fr.nil n0
  have pre0 : ∀ t, Steps p.tables e below (s₁.setTop (mkF m 0 #[.val (.ref w_WORD_BOUNDARY), .val (.int vb), .val (.int va)] [])) t → Steps p.tables e below (s₁.setTop (entryFrame m #[(.ref w_WORD_BOUNDARY), (.int vb), (.int va)] 3)) t := fun t k => castTop (by first | (simp [entryFrame, mkF, argsToLocals, Value.category]; done) | rfl) k
  obtain ⟨cq1, kq1, q1a, q1b, q1c⟩ := isOf hZ e0 E_w_WORD_BOUNDARY
  obtain ⟨_, _, ⟨T1, L1, k1, n1⟩, -, X1, ⟨Lc1, hQ1, l1, y1, z1⟩, st1⟩ := X0.virtualBackUp hx (x := (⟨"com/example/termwell/termwell/core/text/RegexNode$Anchor", "ordinal", "()I"⟩ : MethodName)) (y := (⟨"java/lang/Enum", "ordinal", "()I"⟩ : MethodName)) (owner := "java/lang/Enum") hown (mvT hZ (hw _ (List.mem_of_getElem? (i := 9) rfl))) (mvT hZ (hw _ (List.mem_of_getElem? (i := 10) rfl))) (mvT hZ (hw _ (List.mem_of_getElem? (i := 11) rfl))) (by decide) (mvT hZ (hw _ (List.mem_of_getElem? (i := 13) rfl))) (mvT hZ (hw _ (List.mem_of_getElem? (i := 12) rfl))) (backOf (W := 0) (rm2_w_WORD_BOUNDARY l Z a0 hw [] w_WORD_BOUNDARY h0 n0 Z0 F_ordinal_w_WORD_BOUNDARY) hZ (hw _ (List.mem_of_getElem? (i := 15) rfl)) (hw _ (List.mem_of_getElem? (i := 14) rfl)) (by decide) (by decide)) q1a q1c (g := (mkF m 1 #[.val (.ref w_WORD_BOUNDARY), .val (.int vb), .val (.int va)] [(.ref w_WORD_BOUNDARY)])) rfl (by rw [hml]; rfl) (Steps.refl _) (argsL := []) (rest := []) (lenOf pd___I rfl) rfl (by show 2 * 0 + _ ≤ _; exact Nat.le_of_eq rfl) (hb hby d1_1) (fun _ _ => ⟨rfl, e0, (by decide : 0 + 0 ≤ _), (by decide : 0 + 0 ≤ _)⟩)
  dsimp only [Pt.U, Pt.locs, Pt.cells, Pt.slots] at X1 l1 y1 z1 st1 hQ1
  subst l1 y1 z1
  obtain ⟨rfl, N1q, e1⟩ := hQ1
  have N1 := Fr.app N0 N1q
  obtain ⟨fs, hr, hrun, hended, hW, hsame⟩ := X1.leave (v := some (.int 0)) (fun h => by rw [Bd.returns] at h; cases h)
  refine ⟨_, _, pre0 _ ?_, hrun, hended, _, _, rfl, ?_, ⟨_, rfl⟩, hW, hsame.mono (by decide) (by decide)⟩
  · show Steps p.tables e below (s₁.setTop (mkF m 0 #[.val (.ref w_WORD_BOUNDARY), .val (.int vb), .val (.int va)] [])) _
    refine XS.aloadN X0.here hx rfl (hb hby d1_0) rfl rfl ?_
    show Steps p.tables e below (s₁.setTop (mkF m 1 #[.val (.ref w_WORD_BOUNDARY), .val (.int vb), .val (.int va)] [(.ref w_WORD_BOUNDARY)])) _
    refine st1.trans ?_
    show Steps p.tables e below (T1.setTop (mkF m 4 #[.val (.ref w_WORD_BOUNDARY), .val (.int vb), .val (.int va)] [(.int 4)])) _
    refine XS.tswIn X1.here hx rfl (pc0 := 4) (pc' := 112) rfl (hb hby d1_4) rfl (by decide) (o := 108) (by decide) (by decide) (by decide) ?_
    show Steps p.tables e below (T1.setTop (mkF m 112 #[.val (.ref w_WORD_BOUNDARY), .val (.int vb), .val (.int va)] [])) _
    refine XS.iloadN X1.here hx rfl (hb hby d1_112) rfl ?_
    show Steps p.tables e below (T1.setTop (mkF m 113 #[.val (.ref w_WORD_BOUNDARY), .val (.int vb), .val (.int va)] [(.int vb)])) _
    refine XS.iconst X1.here hx rfl (hb hby d1_113) ?_
    show Steps p.tables e below (T1.setTop (mkF m 114 #[.val (.ref w_WORD_BOUNDARY), .val (.int vb), .val (.int va)] [(.int 2), (.int vb)])) _
    refine XS.icmpYes X1.here hx rfl (pc0 := 114) (pc' := 121) rfl (hb hby d1_114) rfl (feq hc114).2 (by decide) (by decide) ?_
    show Steps p.tables e below (T1.setTop (mkF m 121 #[.val (.ref w_WORD_BOUNDARY), .val (.int vb), .val (.int va)] [])) _
    refine XS.iconst X1.here hx rfl (hb hby d1_121) ?_
    show Steps p.tables e below (T1.setTop (mkF m 122 #[.val (.ref w_WORD_BOUNDARY), .val (.int vb), .val (.int va)] [(.int 0)])) _
    refine XS.iloadN X1.here hx rfl (hb hby d1_122) rfl ?_
    show Steps p.tables e below (T1.setTop (mkF m 123 #[.val (.ref w_WORD_BOUNDARY), .val (.int vb), .val (.int va)] [(.int va), (.int 0)])) _
    refine XS.iconst X1.here hx rfl (hb hby d1_123) ?_
    show Steps p.tables e below (T1.setTop (mkF m 124 #[.val (.ref w_WORD_BOUNDARY), .val (.int vb), .val (.int va)] [(.int 2), (.int va), (.int 0)])) _
    refine XS.icmpYes X1.here hx rfl (pc0 := 124) (pc' := 131) rfl (hb hby d1_124) rfl (feq hc124).2 (by decide) (by decide) ?_
    show Steps p.tables e below (T1.setTop (mkF m 131 #[.val (.ref w_WORD_BOUNDARY), .val (.int vb), .val (.int va)] [(.int 0)])) _
    refine XS.iconst X1.here hx rfl (hb hby d1_131) ?_
    show Steps p.tables e below (T1.setTop (mkF m 132 #[.val (.ref w_WORD_BOUNDARY), .val (.int vb), .val (.int va)] [(.int 0), (.int 0)])) _
    refine XS.icmpYes X1.here hx rfl (pc0 := 132) (pc' := 139) rfl (hb hby d1_132) rfl (teq (by decide : (0 : Int32) = (0 : Int32))).1 (by decide) (by decide) ?_
    show Steps p.tables e below (T1.setTop (mkF m 139 #[.val (.ref w_WORD_BOUNDARY), .val (.int vb), .val (.int va)] [])) _
    refine XS.iconst X1.here hx rfl (hb hby d1_139) ?_
    show Steps p.tables e below (T1.setTop (mkF m 140 #[.val (.ref w_WORD_BOUNDARY), .val (.int vb), .val (.int va)] [(.int 0)])) _
    refine XS.goto X1.here hx rfl (pc0 := 140) (pc' := 171) rfl (hb hby d1_140) (by decide) (by decide) ?_
    show Steps p.tables e below (T1.setTop (mkF m 171 #[.val (.ref w_WORD_BOUNDARY), .val (.int vb), .val (.int va)] [(.int 0)])) _
    exact retN X1 hx (t := .boolean) Bd.returns (by simp) (hb hby d1_171) hr
  · show Q1_w_WORD_BOUNDARY_vb_va_rtt Z w_WORD_BOUNDARY vb va h0 n0 _ T1.heap _
    rw [e1]
    exact ⟨rfl, N1, rfl⟩
def Q0_k4tt (Z : State) (p1 : Int32) (p2 : Int32) (p3 : Int32) (vb : Int32) (va : Int32) (w_WORD_BOUNDARY : Addr) (h0 : Heap) (n0 : Nat) (v : Option Value) (h : Heap) (L : List Loc) : Prop := v = some (.int 1) ∧ Fr n0 L ∧ h = h0
set_option maxRecDepth 65536 in
set_option maxHeartbeats 40000000 in
theorem rm0_k4tt (l : Launch) (Z : State) (a0 : Array Value) (hw : ∀ d ∈ tables_1, d.before a0 Z = true) (ws : List Jvm.Cond) (p1 : Int32) (p2 : Int32) (p3 : Int32) (vb : Int32) (va : Int32) (w_WORD_BOUNDARY : Addr) (h0 : Heap) (n0 : Nat) (Z0 : n0 ≤ h0.size) (hk : ((p1 &&& (2147483647 : Int32)) % (6 : Int32)) = (4 : Int32)) (hvb : (p2 &&& (3 : Int32)) = vb) (hva : (p3 &&& (3 : Int32)) = va) (S_WORD_BOUNDARY : Sta Z h0 "com/example/termwell/termwell/core/text/RegexNode$Anchor" "WORD_BOUNDARY" "Lcom/example/termwell/termwell/core/text/RegexNode$Anchor;" (.ref w_WORD_BOUNDARY)) (he : ((((19268 : Int32).toUInt32 >>> (((vb * (4 : Int32)) + va) &&& 31).toUInt32).toInt32) &&& (1 : Int32)) = (0 : Int32)) (F_ordinal_w_WORD_BOUNDARY : Fld Z h0 w_WORD_BOUNDARY "java/lang/Enum" "ordinal" "I" (.int 4)) (E_w_WORD_BOUNDARY : Exa Z h0 w_WORD_BOUNDARY "com/example/termwell/termwell/core/text/RegexNode$Anchor") (hc114 : ¬ (vb = (2 : Int32))) (hc124 : ¬ (va = (2 : Int32))) :
    MetFree l x (head1 (Jvm.Cond.code x code maxLocals ret :: ws) room_1) (fun a U => a = #[(.int p1), (.int p2), (.int p3)] ∧ Z.Warmed39 U.vm ∧ U.heap = h0) (fun _ _ _ _ _ => True) (fun _ U o U' => ∃ v L, o = .returned v ∧ Q0_k4tt Z p1 p2 p3 vb va w_WORD_BOUNDARY h0 n0 v U'.heap L ∧ FrameEnd U o U' L room_1.cells room_1.slots) := by
  refine MetFree.of_bodySF (plainFor_of_name pn_0) hisR ?_
  intro p e s m args below meth c s₁ Bd hml0 hP hK
  obtain ⟨rfl, hZ, hh⟩ := hP
  have hx := Bd.exec
  have hby := Bd.bytes
  have hml : c.maxLocals = 9 := hml0
  have hown : s.vm.findClass "com/example/termwell/termwell/core/text/AnchorHoldsPinLaw" = some m.cls := findClass_of_methodNamed Bd.named
  have hnm := (name_of_methodNamed Bd.named Bd.method).1
  have X0 : Stand p l e room_1 s m #[(.int p1), (.int p2), (.int p3)] below meth c s₁ [] 0 0 := Stand.of_body Bd
  have e0 : s₁.heap = h0 := by rw [← hh, Bd.state]; rfl
  have N0 := Fr.nil n0
  have pre0 : ∀ t, Steps p.tables e below (s₁.setTop (mkF m 0 #[.val (.int p1), .val (.int p2), .val (.int p3), .unset, .unset, .unset, .unset, .unset, .unset] [])) t → Steps p.tables e below (s₁.setTop (entryFrame m #[(.int p1), (.int p2), (.int p3)] maxLocals)) t := fun t k => castTop (by first | (simp [entryFrame, mkF, argsToLocals, Value.category, maxLocals]; done) | rfl) k
  obtain ⟨T1, X1, e1, st1⟩ := getS2 X0 hx hZ hown (host := "") (Or.inl (hw _ (List.mem_of_getElem? (i := 27) rfl))) Via.refl e0 S_WORD_BOUNDARY (g := (mkF m 93 #[.val (.int p1), .val (.int p2), .val (.int p3), .val (.int 4), .val (.int vb), .val (.int va), .unset, .unset, .unset] [])) rfl (hb hby at_93)
  obtain ⟨cq2, kq2, q2a, q2b, q2c⟩ := isOf hZ e1 E_w_WORD_BOUNDARY
  obtain ⟨_, _, ⟨T2, L2, k2, n2⟩, -, X2, ⟨Lc2, hQ2, l2, y2, z2⟩, st2⟩ := X1.virtualBack hx (y := (⟨"com/example/termwell/termwell/core/text/RegexNode$Anchor", "holds", "(II)Z"⟩ : MethodName)) (z := (⟨"com/example/termwell/termwell/core/text/RegexNode$Anchor", "holds", "(II)Z"⟩ : MethodName)) hown (mvT hZ (hw _ (List.mem_of_getElem? (i := 4) rfl))) (mvT hZ (hw _ (List.mem_of_getElem? (i := 5) rfl))) (notFace_of_selects (args := #[]) (mvT hZ (hw _ (List.mem_of_getElem? (i := 7) rfl)))) (mvT hZ (hw _ (List.mem_of_getElem? (i := 7) rfl))) (mvT hZ (hw _ (List.mem_of_getElem? (i := 6) rfl))) (by decide) (backOf (W := 0) (rm1_w_WORD_BOUNDARY_vb_va_rtt l Z a0 hw [] w_WORD_BOUNDARY vb va h0 n0 Z0 F_ordinal_w_WORD_BOUNDARY E_w_WORD_BOUNDARY hc114 hc124) hZ (hw _ (List.mem_of_getElem? (i := 8) rfl)) (hw _ (List.mem_of_getElem? (i := 2) rfl)) (by decide) (by decide)) q2a q2c (g := (mkF m 143 #[.val (.int p1), .val (.int p2), .val (.int p3), .val (.int 4), .val (.int vb), .val (.int va), .val (.ref w_WORD_BOUNDARY), .val (.int 19268), .val (.int 0)] [(.int va), (.int vb), (.ref w_WORD_BOUNDARY)])) rfl (by rw [hml]; rfl) (Steps.refl _) (argsL := [(.int vb), (.int va)]) (rest := []) (lenOf pd__II_Z rfl) rfl (by show 2 * 0 + _ ≤ _; exact Nat.le_of_eq rfl) (hb hby at_143) (fun _ _ => ⟨rfl, e1, (by decide : 0 + 0 ≤ _), (by decide : 0 + 0 ≤ _)⟩)
  dsimp only [Pt.U, Pt.locs, Pt.cells, Pt.slots] at X2 l2 y2 z2 st2 hQ2
  subst l2 y2 z2
  obtain ⟨rfl, N2q, e2⟩ := hQ2
  have N2 := Fr.app N0 N2q
  obtain ⟨fs, hr, hrun, hended, hW, hsame⟩ := X2.leave (v := some (.int 1)) (fun h => by rw [Bd.returns] at h; cases h)
  refine ⟨_, _, pre0 _ ?_, hrun, hended, _, _, rfl, ?_, ⟨_, rfl⟩, hW, hsame.mono (by decide) (by decide)⟩
  · show Steps p.tables e below (s₁.setTop (mkF m 0 #[.val (.int p1), .val (.int p2), .val (.int p3), .unset, .unset, .unset, .unset, .unset, .unset] [])) _
    refine XS.iloadN X0.here hx rfl (hb hby at_0) rfl ?_
    show Steps p.tables e below (s₁.setTop (mkF m 1 #[.val (.int p1), .val (.int p2), .val (.int p3), .unset, .unset, .unset, .unset, .unset, .unset] [(.int p1)])) _
    refine X0.ldcInt hx hown (mvT hZ (hw _ (List.mem_of_getElem? (i := 0) rfl))) (g := (mkF m 1 #[.val (.int p1), .val (.int p2), .val (.int p3), .unset, .unset, .unset, .unset, .unset, .unset] [(.int p1)])) rfl (hb hby at_1) _ ?_
    show Steps p.tables e below (s₁.setTop (mkF m 3 #[.val (.int p1), .val (.int p2), .val (.int p3), .unset, .unset, .unset, .unset, .unset, .unset] [(.int 2147483647), (.int p1)])) _
    refine XS.iand X0.here hx rfl (hb hby at_3) rfl ?_
    show Steps p.tables e below (s₁.setTop (mkF m 4 #[.val (.int p1), .val (.int p2), .val (.int p3), .unset, .unset, .unset, .unset, .unset, .unset] [(.int (p1 &&& (2147483647 : Int32)))])) _
    refine XS.bipush X0.here hx rfl (hb hby at_4) ?_
    show Steps p.tables e below (s₁.setTop (mkF m 6 #[.val (.int p1), .val (.int p2), .val (.int p3), .unset, .unset, .unset, .unset, .unset, .unset] [(.int 6), (.int (p1 &&& (2147483647 : Int32)))])) _
    refine iremM X0 hx rfl (hb hby at_6) rfl (by decide) ?_
    show Steps p.tables e below (s₁.setTop (mkF m 7 #[.val (.int p1), .val (.int p2), .val (.int p3), .unset, .unset, .unset, .unset, .unset, .unset] [(.int ((p1 &&& (2147483647 : Int32)) % (6 : Int32)))])) _
    rw [hk]
    show Steps p.tables e below (s₁.setTop (mkF m 7 #[.val (.int p1), .val (.int p2), .val (.int p3), .unset, .unset, .unset, .unset, .unset, .unset] [(.int 4)])) _
    refine XS.istoreN X0.here hx rfl (hb hby at_7) rfl (l' := #[.val (.int p1), .val (.int p2), .val (.int p3), .val (.int 4), .unset, .unset, .unset, .unset, .unset]) rfl ?_
    show Steps p.tables e below (s₁.setTop (mkF m 8 #[.val (.int p1), .val (.int p2), .val (.int p3), .val (.int 4), .unset, .unset, .unset, .unset, .unset] [])) _
    refine XS.iloadN X0.here hx rfl (hb hby at_8) rfl ?_
    show Steps p.tables e below (s₁.setTop (mkF m 9 #[.val (.int p1), .val (.int p2), .val (.int p3), .val (.int 4), .unset, .unset, .unset, .unset, .unset] [(.int p2)])) _
    refine XS.iconst X0.here hx rfl (hb hby at_9) ?_
    show Steps p.tables e below (s₁.setTop (mkF m 10 #[.val (.int p1), .val (.int p2), .val (.int p3), .val (.int 4), .unset, .unset, .unset, .unset, .unset] [(.int 3), (.int p2)])) _
    refine XS.iand X0.here hx rfl (hb hby at_10) rfl ?_
    show Steps p.tables e below (s₁.setTop (mkF m 11 #[.val (.int p1), .val (.int p2), .val (.int p3), .val (.int 4), .unset, .unset, .unset, .unset, .unset] [(.int (p2 &&& (3 : Int32)))])) _
    rw [hvb]
    show Steps p.tables e below (s₁.setTop (mkF m 11 #[.val (.int p1), .val (.int p2), .val (.int p3), .val (.int 4), .unset, .unset, .unset, .unset, .unset] [(.int vb)])) _
    refine XS.istore X0.here hx rfl (hb hby at_11) rfl (l' := #[.val (.int p1), .val (.int p2), .val (.int p3), .val (.int 4), .val (.int vb), .unset, .unset, .unset, .unset]) rfl ?_
    show Steps p.tables e below (s₁.setTop (mkF m 13 #[.val (.int p1), .val (.int p2), .val (.int p3), .val (.int 4), .val (.int vb), .unset, .unset, .unset, .unset] [])) _
    refine XS.iloadN X0.here hx rfl (hb hby at_13) rfl ?_
    show Steps p.tables e below (s₁.setTop (mkF m 14 #[.val (.int p1), .val (.int p2), .val (.int p3), .val (.int 4), .val (.int vb), .unset, .unset, .unset, .unset] [(.int p3)])) _
    refine XS.iconst X0.here hx rfl (hb hby at_14) ?_
    show Steps p.tables e below (s₁.setTop (mkF m 15 #[.val (.int p1), .val (.int p2), .val (.int p3), .val (.int 4), .val (.int vb), .unset, .unset, .unset, .unset] [(.int 3), (.int p3)])) _
    refine XS.iand X0.here hx rfl (hb hby at_15) rfl ?_
    show Steps p.tables e below (s₁.setTop (mkF m 16 #[.val (.int p1), .val (.int p2), .val (.int p3), .val (.int 4), .val (.int vb), .unset, .unset, .unset, .unset] [(.int (p3 &&& (3 : Int32)))])) _
    rw [hva]
    show Steps p.tables e below (s₁.setTop (mkF m 16 #[.val (.int p1), .val (.int p2), .val (.int p3), .val (.int 4), .val (.int vb), .unset, .unset, .unset, .unset] [(.int va)])) _
    refine XS.istore X0.here hx rfl (hb hby at_16) rfl (l' := #[.val (.int p1), .val (.int p2), .val (.int p3), .val (.int 4), .val (.int vb), .val (.int va), .unset, .unset, .unset]) rfl ?_
    show Steps p.tables e below (s₁.setTop (mkF m 18 #[.val (.int p1), .val (.int p2), .val (.int p3), .val (.int 4), .val (.int vb), .val (.int va), .unset, .unset, .unset] [])) _
    refine XS.iloadN X0.here hx rfl (hb hby at_18) rfl ?_
    show Steps p.tables e below (s₁.setTop (mkF m 19 #[.val (.int p1), .val (.int p2), .val (.int p3), .val (.int 4), .val (.int vb), .val (.int va), .unset, .unset, .unset] [(.int 4)])) _
    refine XS.ifYes X0.here hx rfl (pc0 := 19) (pc' := 34) rfl (hb hby at_19) rfl ((if0 _ _).trans (feq (by decide : ¬ ((4 : Int32) = (0 : Int32)))).2) (by decide) (by decide) ?_
    show Steps p.tables e below (s₁.setTop (mkF m 34 #[.val (.int p1), .val (.int p2), .val (.int p3), .val (.int 4), .val (.int vb), .val (.int va), .unset, .unset, .unset] [])) _
    refine XS.iloadN X0.here hx rfl (hb hby at_34) rfl ?_
    show Steps p.tables e below (s₁.setTop (mkF m 35 #[.val (.int p1), .val (.int p2), .val (.int p3), .val (.int 4), .val (.int vb), .val (.int va), .unset, .unset, .unset] [(.int 4)])) _
    refine XS.iconst X0.here hx rfl (hb hby at_35) ?_
    show Steps p.tables e below (s₁.setTop (mkF m 36 #[.val (.int p1), .val (.int p2), .val (.int p3), .val (.int 4), .val (.int vb), .val (.int va), .unset, .unset, .unset] [(.int 1), (.int 4)])) _
    refine XS.icmpYes X0.here hx rfl (pc0 := 36) (pc' := 52) rfl (hb hby at_36) rfl (feq (by decide : ¬ ((4 : Int32) = (1 : Int32)))).2 (by decide) (by decide) ?_
    show Steps p.tables e below (s₁.setTop (mkF m 52 #[.val (.int p1), .val (.int p2), .val (.int p3), .val (.int 4), .val (.int vb), .val (.int va), .unset, .unset, .unset] [])) _
    refine XS.iloadN X0.here hx rfl (hb hby at_52) rfl ?_
    show Steps p.tables e below (s₁.setTop (mkF m 53 #[.val (.int p1), .val (.int p2), .val (.int p3), .val (.int 4), .val (.int vb), .val (.int va), .unset, .unset, .unset] [(.int 4)])) _
    refine XS.iconst X0.here hx rfl (hb hby at_53) ?_
    show Steps p.tables e below (s₁.setTop (mkF m 54 #[.val (.int p1), .val (.int p2), .val (.int p3), .val (.int 4), .val (.int vb), .val (.int va), .unset, .unset, .unset] [(.int 2), (.int 4)])) _
    refine XS.icmpYes X0.here hx rfl (pc0 := 54) (pc' := 70) rfl (hb hby at_54) rfl (feq (by decide : ¬ ((4 : Int32) = (2 : Int32)))).2 (by decide) (by decide) ?_
    show Steps p.tables e below (s₁.setTop (mkF m 70 #[.val (.int p1), .val (.int p2), .val (.int p3), .val (.int 4), .val (.int vb), .val (.int va), .unset, .unset, .unset] [])) _
    refine XS.iloadN X0.here hx rfl (hb hby at_70) rfl ?_
    show Steps p.tables e below (s₁.setTop (mkF m 71 #[.val (.int p1), .val (.int p2), .val (.int p3), .val (.int 4), .val (.int vb), .val (.int va), .unset, .unset, .unset] [(.int 4)])) _
    refine XS.iconst X0.here hx rfl (hb hby at_71) ?_
    show Steps p.tables e below (s₁.setTop (mkF m 72 #[.val (.int p1), .val (.int p2), .val (.int p3), .val (.int 4), .val (.int vb), .val (.int va), .unset, .unset, .unset] [(.int 3), (.int 4)])) _
    refine XS.icmpYes X0.here hx rfl (pc0 := 72) (pc' := 88) rfl (hb hby at_72) rfl (feq (by decide : ¬ ((4 : Int32) = (3 : Int32)))).2 (by decide) (by decide) ?_
    show Steps p.tables e below (s₁.setTop (mkF m 88 #[.val (.int p1), .val (.int p2), .val (.int p3), .val (.int 4), .val (.int vb), .val (.int va), .unset, .unset, .unset] [])) _
    refine XS.iloadN X0.here hx rfl (hb hby at_88) rfl ?_
    show Steps p.tables e below (s₁.setTop (mkF m 89 #[.val (.int p1), .val (.int p2), .val (.int p3), .val (.int 4), .val (.int vb), .val (.int va), .unset, .unset, .unset] [(.int 4)])) _
    refine XS.iconst X0.here hx rfl (hb hby at_89) ?_
    show Steps p.tables e below (s₁.setTop (mkF m 90 #[.val (.int p1), .val (.int p2), .val (.int p3), .val (.int 4), .val (.int vb), .val (.int va), .unset, .unset, .unset] [(.int 4), (.int 4)])) _
    refine XS.icmpNo X0.here hx rfl (hb hby at_90) rfl (teq (by decide : (4 : Int32) = (4 : Int32))).2 ?_
    show Steps p.tables e below (s₁.setTop (mkF m 93 #[.val (.int p1), .val (.int p2), .val (.int p3), .val (.int 4), .val (.int vb), .val (.int va), .unset, .unset, .unset] [])) _
    refine st1 _ ?_
    show Steps p.tables e below (T1.setTop (mkF m 96 #[.val (.int p1), .val (.int p2), .val (.int p3), .val (.int 4), .val (.int vb), .val (.int va), .unset, .unset, .unset] [(.ref w_WORD_BOUNDARY)])) _
    refine XS.astore X1.here hx rfl (hb hby at_96) rfl rfl (l' := #[.val (.int p1), .val (.int p2), .val (.int p3), .val (.int 4), .val (.int vb), .val (.int va), .val (.ref w_WORD_BOUNDARY), .unset, .unset]) rfl ?_
    show Steps p.tables e below (T1.setTop (mkF m 98 #[.val (.int p1), .val (.int p2), .val (.int p3), .val (.int 4), .val (.int vb), .val (.int va), .val (.ref w_WORD_BOUNDARY), .unset, .unset] [])) _
    refine XS.sipush X1.here hx rfl (hb hby at_98) ?_
    show Steps p.tables e below (T1.setTop (mkF m 101 #[.val (.int p1), .val (.int p2), .val (.int p3), .val (.int 4), .val (.int vb), .val (.int va), .val (.ref w_WORD_BOUNDARY), .unset, .unset] [(.int 19268)])) _
    refine XS.istore X1.here hx rfl (hb hby at_101) rfl (l' := #[.val (.int p1), .val (.int p2), .val (.int p3), .val (.int 4), .val (.int vb), .val (.int va), .val (.ref w_WORD_BOUNDARY), .val (.int 19268), .unset]) rfl ?_
    show Steps p.tables e below (T1.setTop (mkF m 103 #[.val (.int p1), .val (.int p2), .val (.int p3), .val (.int 4), .val (.int vb), .val (.int va), .val (.ref w_WORD_BOUNDARY), .val (.int 19268), .unset] [])) _
    refine XS.goto X1.here hx rfl (pc0 := 103) (pc' := 115) rfl (hb hby at_103) (by decide) (by decide) ?_
    show Steps p.tables e below (T1.setTop (mkF m 115 #[.val (.int p1), .val (.int p2), .val (.int p3), .val (.int 4), .val (.int vb), .val (.int va), .val (.ref w_WORD_BOUNDARY), .val (.int 19268), .unset] [])) _
    refine XS.iload X1.here hx rfl (hb hby at_115) rfl ?_
    show Steps p.tables e below (T1.setTop (mkF m 117 #[.val (.int p1), .val (.int p2), .val (.int p3), .val (.int 4), .val (.int vb), .val (.int va), .val (.ref w_WORD_BOUNDARY), .val (.int 19268), .unset] [(.int 19268)])) _
    refine XS.iload X1.here hx rfl (hb hby at_117) rfl ?_
    show Steps p.tables e below (T1.setTop (mkF m 119 #[.val (.int p1), .val (.int p2), .val (.int p3), .val (.int 4), .val (.int vb), .val (.int va), .val (.ref w_WORD_BOUNDARY), .val (.int 19268), .unset] [(.int vb), (.int 19268)])) _
    refine XS.iconst X1.here hx rfl (hb hby at_119) ?_
    show Steps p.tables e below (T1.setTop (mkF m 120 #[.val (.int p1), .val (.int p2), .val (.int p3), .val (.int 4), .val (.int vb), .val (.int va), .val (.ref w_WORD_BOUNDARY), .val (.int 19268), .unset] [(.int 4), (.int vb), (.int 19268)])) _
    refine XS.imul X1.here hx rfl (hb hby at_120) rfl ?_
    show Steps p.tables e below (T1.setTop (mkF m 121 #[.val (.int p1), .val (.int p2), .val (.int p3), .val (.int 4), .val (.int vb), .val (.int va), .val (.ref w_WORD_BOUNDARY), .val (.int 19268), .unset] [(.int (vb * (4 : Int32))), (.int 19268)])) _
    refine XS.iload X1.here hx rfl (hb hby at_121) rfl ?_
    show Steps p.tables e below (T1.setTop (mkF m 123 #[.val (.int p1), .val (.int p2), .val (.int p3), .val (.int 4), .val (.int vb), .val (.int va), .val (.ref w_WORD_BOUNDARY), .val (.int 19268), .unset] [(.int va), (.int (vb * (4 : Int32))), (.int 19268)])) _
    refine XS.iadd X1.here hx rfl (hb hby at_123) rfl ?_
    show Steps p.tables e below (T1.setTop (mkF m 124 #[.val (.int p1), .val (.int p2), .val (.int p3), .val (.int 4), .val (.int vb), .val (.int va), .val (.ref w_WORD_BOUNDARY), .val (.int 19268), .unset] [(.int ((vb * (4 : Int32)) + va)), (.int 19268)])) _
    refine XS.iushr X1.here hx rfl (hb hby at_124) rfl ?_
    show Steps p.tables e below (T1.setTop (mkF m 125 #[.val (.int p1), .val (.int p2), .val (.int p3), .val (.int 4), .val (.int vb), .val (.int va), .val (.ref w_WORD_BOUNDARY), .val (.int 19268), .unset] [(.int (((19268 : Int32).toUInt32 >>> (((vb * (4 : Int32)) + va) &&& 31).toUInt32).toInt32))])) _
    refine XS.iconst X1.here hx rfl (hb hby at_125) ?_
    show Steps p.tables e below (T1.setTop (mkF m 126 #[.val (.int p1), .val (.int p2), .val (.int p3), .val (.int 4), .val (.int vb), .val (.int va), .val (.ref w_WORD_BOUNDARY), .val (.int 19268), .unset] [(.int 1), (.int (((19268 : Int32).toUInt32 >>> (((vb * (4 : Int32)) + va) &&& 31).toUInt32).toInt32))])) _
    refine XS.iand X1.here hx rfl (hb hby at_126) rfl ?_
    show Steps p.tables e below (T1.setTop (mkF m 127 #[.val (.int p1), .val (.int p2), .val (.int p3), .val (.int 4), .val (.int vb), .val (.int va), .val (.ref w_WORD_BOUNDARY), .val (.int 19268), .unset] [(.int ((((19268 : Int32).toUInt32 >>> (((vb * (4 : Int32)) + va) &&& 31).toUInt32).toInt32) &&& (1 : Int32)))])) _
    rw [he]
    show Steps p.tables e below (T1.setTop (mkF m 127 #[.val (.int p1), .val (.int p2), .val (.int p3), .val (.int 4), .val (.int vb), .val (.int va), .val (.ref w_WORD_BOUNDARY), .val (.int 19268), .unset] [(.int 0)])) _
    refine XS.ifYes X1.here hx rfl (pc0 := 127) (pc' := 134) rfl (hb hby at_127) rfl ((if0 _ _).trans (teq (by decide : (0 : Int32) = (0 : Int32))).1) (by decide) (by decide) ?_
    show Steps p.tables e below (T1.setTop (mkF m 134 #[.val (.int p1), .val (.int p2), .val (.int p3), .val (.int 4), .val (.int vb), .val (.int va), .val (.ref w_WORD_BOUNDARY), .val (.int 19268), .unset] [])) _
    refine XS.iconst X1.here hx rfl (hb hby at_134) ?_
    show Steps p.tables e below (T1.setTop (mkF m 135 #[.val (.int p1), .val (.int p2), .val (.int p3), .val (.int 4), .val (.int vb), .val (.int va), .val (.ref w_WORD_BOUNDARY), .val (.int 19268), .unset] [(.int 0)])) _
    refine XS.istore X1.here hx rfl (hb hby at_135) rfl (l' := #[.val (.int p1), .val (.int p2), .val (.int p3), .val (.int 4), .val (.int vb), .val (.int va), .val (.ref w_WORD_BOUNDARY), .val (.int 19268), .val (.int 0)]) rfl ?_
    show Steps p.tables e below (T1.setTop (mkF m 137 #[.val (.int p1), .val (.int p2), .val (.int p3), .val (.int 4), .val (.int vb), .val (.int va), .val (.ref w_WORD_BOUNDARY), .val (.int 19268), .val (.int 0)] [])) _
    refine XS.aload X1.here hx rfl (hb hby at_137) rfl rfl ?_
    show Steps p.tables e below (T1.setTop (mkF m 139 #[.val (.int p1), .val (.int p2), .val (.int p3), .val (.int 4), .val (.int vb), .val (.int va), .val (.ref w_WORD_BOUNDARY), .val (.int 19268), .val (.int 0)] [(.ref w_WORD_BOUNDARY)])) _
    refine XS.iload X1.here hx rfl (hb hby at_139) rfl ?_
    show Steps p.tables e below (T1.setTop (mkF m 141 #[.val (.int p1), .val (.int p2), .val (.int p3), .val (.int 4), .val (.int vb), .val (.int va), .val (.ref w_WORD_BOUNDARY), .val (.int 19268), .val (.int 0)] [(.int vb), (.ref w_WORD_BOUNDARY)])) _
    refine XS.iload X1.here hx rfl (hb hby at_141) rfl ?_
    show Steps p.tables e below (T1.setTop (mkF m 143 #[.val (.int p1), .val (.int p2), .val (.int p3), .val (.int 4), .val (.int vb), .val (.int va), .val (.ref w_WORD_BOUNDARY), .val (.int 19268), .val (.int 0)] [(.int va), (.int vb), (.ref w_WORD_BOUNDARY)])) _
    refine st2.trans ?_
    show Steps p.tables e below (T2.setTop (mkF m 146 #[.val (.int p1), .val (.int p2), .val (.int p3), .val (.int 4), .val (.int vb), .val (.int va), .val (.ref w_WORD_BOUNDARY), .val (.int 19268), .val (.int 0)] [(.int 0)])) _
    refine XS.iload X2.here hx rfl (hb hby at_146) rfl ?_
    show Steps p.tables e below (T2.setTop (mkF m 148 #[.val (.int p1), .val (.int p2), .val (.int p3), .val (.int 4), .val (.int vb), .val (.int va), .val (.ref w_WORD_BOUNDARY), .val (.int 19268), .val (.int 0)] [(.int 0), (.int 0)])) _
    refine XS.icmpNo X2.here hx rfl (hb hby at_148) rfl (teq (by decide : (0 : Int32) = (0 : Int32))).2 ?_
    show Steps p.tables e below (T2.setTop (mkF m 151 #[.val (.int p1), .val (.int p2), .val (.int p3), .val (.int 4), .val (.int vb), .val (.int va), .val (.ref w_WORD_BOUNDARY), .val (.int 19268), .val (.int 0)] [])) _
    refine XS.iconst X2.here hx rfl (hb hby at_151) ?_
    show Steps p.tables e below (T2.setTop (mkF m 152 #[.val (.int p1), .val (.int p2), .val (.int p3), .val (.int 4), .val (.int vb), .val (.int va), .val (.ref w_WORD_BOUNDARY), .val (.int 19268), .val (.int 0)] [(.int 1)])) _
    refine XS.goto X2.here hx rfl (pc0 := 152) (pc' := 156) rfl (hb hby at_152) (by decide) (by decide) ?_
    show Steps p.tables e below (T2.setTop (mkF m 156 #[.val (.int p1), .val (.int p2), .val (.int p3), .val (.int 4), .val (.int vb), .val (.int va), .val (.ref w_WORD_BOUNDARY), .val (.int 19268), .val (.int 0)] [(.int 1)])) _
    exact retN X2 hx (t := .boolean) Bd.returns (by simp) (hb hby at_156) hr
  · show Q0_k4tt Z p1 p2 p3 vb va w_WORD_BOUNDARY h0 n0 _ T2.heap _
    rw [e2]
    exact ⟨rfl, N2, rfl⟩
def Q2_w_NOT_WORD_BOUNDARY (Z : State) (w_NOT_WORD_BOUNDARY : Addr) (h0 : Heap) (n0 : Nat) (v : Option Value) (h : Heap) (L : List Loc) : Prop := v = some (.int 5) ∧ Fr n0 L ∧ h = h0
set_option maxRecDepth 65536 in
set_option maxHeartbeats 40000000 in
theorem rm2_w_NOT_WORD_BOUNDARY (l : Launch) (Z : State) (a0 : Array Value) (hw : ∀ d ∈ tables_1, d.before a0 Z = true) (ws : List Jvm.Cond) (w_NOT_WORD_BOUNDARY : Addr) (h0 : Heap) (n0 : Nat) (Z0 : n0 ≤ h0.size) (F_ordinal_w_NOT_WORD_BOUNDARY : Fld Z h0 w_NOT_WORD_BOUNDARY "java/lang/Enum" "ordinal" "I" (.int 5)) :
    MetFree l (⟨"java/lang/Enum", "ordinal", "()I"⟩ : MethodName) (head1 (Jvm.Cond.code (⟨"java/lang/Enum", "ordinal", "()I"⟩ : MethodName) jdk_37_method_2_code 1 (some .int) :: ws) ({ frames := 0, cells := 0, slots := 0, locals := 0 } : Room)) (fun a U => a = #[(.ref w_NOT_WORD_BOUNDARY)] ∧ Z.Warmed39 U.vm ∧ U.heap = h0) (fun _ _ _ _ _ => True) (fun _ U o U' => ∃ v L, o = .returned v ∧ Q2_w_NOT_WORD_BOUNDARY Z w_NOT_WORD_BOUNDARY h0 n0 v U'.heap L ∧ FrameEnd U o U' L ({ frames := 0, cells := 0, slots := 0, locals := 0 } : Room).cells ({ frames := 0, cells := 0, slots := 0, locals := 0 } : Room).slots) := by
  refine MetFree.of_bodySF (plainFor_of_name pn_2) hisR ?_
  intro p e s m args below meth c s₁ Bd hml0 hP hK
  obtain ⟨rfl, hZ, hh⟩ := hP
  have hx := Bd.exec
  have hby := Bd.bytes
  have hml : c.maxLocals = 1 := hml0
  have hown : s.vm.findClass "java/lang/Enum" = some m.cls := findClass_of_methodNamed Bd.named
  have hnm := (name_of_methodNamed Bd.named Bd.method).1
  have X0 : Stand p l e ({ frames := 0, cells := 0, slots := 0, locals := 0 } : Room) s m #[(.ref w_NOT_WORD_BOUNDARY)] below meth c s₁ [] 0 0 := Stand.of_body Bd
  have e0 : s₁.heap = h0 := by rw [← hh, Bd.state]; rfl
  have N0 := Fr.nil n0
  have pre0 : ∀ t, Steps p.tables e below (s₁.setTop (mkF m 0 #[.val (.ref w_NOT_WORD_BOUNDARY)] [])) t → Steps p.tables e below (s₁.setTop (entryFrame m #[(.ref w_NOT_WORD_BOUNDARY)] 1)) t := fun t k => castTop (by first | (simp [entryFrame, mkF, argsToLocals, Value.category]; done) | rfl) k
  obtain ⟨T1, X1, e1, st1⟩ := getF X0 hx hZ hown (host := "") (Or.inl (hw _ (List.mem_of_getElem? (i := 16) rfl))) Via.refl e0 F_ordinal_w_NOT_WORD_BOUNDARY (g := (mkF m 1 #[.val (.ref w_NOT_WORD_BOUNDARY)] [(.ref w_NOT_WORD_BOUNDARY)])) rfl rfl (hb hby d2_1)
  obtain ⟨fs, hr, hrun, hended, hW, hsame⟩ := X1.leave (v := some (.int 5)) (fun h => by rw [Bd.returns] at h; cases h)
  refine ⟨_, _, pre0 _ ?_, hrun, hended, _, _, rfl, ?_, ⟨_, rfl⟩, hW, hsame.mono (by decide) (by decide)⟩
  · show Steps p.tables e below (s₁.setTop (mkF m 0 #[.val (.ref w_NOT_WORD_BOUNDARY)] [])) _
    refine XS.aloadN X0.here hx rfl (hb hby d2_0) rfl rfl ?_
    show Steps p.tables e below (s₁.setTop (mkF m 1 #[.val (.ref w_NOT_WORD_BOUNDARY)] [(.ref w_NOT_WORD_BOUNDARY)])) _
    refine st1 _ ?_
    show Steps p.tables e below (T1.setTop (mkF m 4 #[.val (.ref w_NOT_WORD_BOUNDARY)] [(.int 5)])) _
    exact retI X1 hx Bd.returns (hb hby d2_4) hr
  · show Q2_w_NOT_WORD_BOUNDARY Z w_NOT_WORD_BOUNDARY h0 n0 _ T1.heap _
    rw [e1]
    exact ⟨rfl, N0, rfl⟩
def Q1_w_NOT_WORD_BOUNDARY_vb_va_rff (Z : State) (w_NOT_WORD_BOUNDARY : Addr) (vb : Int32) (va : Int32) (h0 : Heap) (n0 : Nat) (v : Option Value) (h : Heap) (L : List Loc) : Prop := v = some (.int 1) ∧ Fr n0 L ∧ h = h0
set_option maxRecDepth 65536 in
set_option maxHeartbeats 40000000 in
theorem rm1_w_NOT_WORD_BOUNDARY_vb_va_rff (l : Launch) (Z : State) (a0 : Array Value) (hw : ∀ d ∈ tables_1, d.before a0 Z = true) (ws : List Jvm.Cond) (w_NOT_WORD_BOUNDARY : Addr) (vb : Int32) (va : Int32) (h0 : Heap) (n0 : Nat) (Z0 : n0 ≤ h0.size) (F_ordinal_w_NOT_WORD_BOUNDARY : Fld Z h0 w_NOT_WORD_BOUNDARY "java/lang/Enum" "ordinal" "I" (.int 5)) (E_w_NOT_WORD_BOUNDARY : Exa Z h0 w_NOT_WORD_BOUNDARY "com/example/termwell/termwell/core/text/RegexNode$Anchor") (hc145 : vb = (2 : Int32)) (hc155 : va = (2 : Int32)) :
    MetFree l (⟨"com/example/termwell/termwell/core/text/RegexNode$Anchor", "holds", "(II)Z"⟩ : MethodName) (head1 (Jvm.Cond.code (⟨"com/example/termwell/termwell/core/text/RegexNode$Anchor", "holds", "(II)Z"⟩ : MethodName) prog_28_method_5_code 3 (some .boolean) :: ws) ({ frames := 1, cells := 0, slots := 0, locals := 12 } : Room)) (fun a U => a = #[(.ref w_NOT_WORD_BOUNDARY), (.int vb), (.int va)] ∧ Z.Warmed39 U.vm ∧ U.heap = h0) (fun _ _ _ _ _ => True) (fun _ U o U' => ∃ v L, o = .returned v ∧ Q1_w_NOT_WORD_BOUNDARY_vb_va_rff Z w_NOT_WORD_BOUNDARY vb va h0 n0 v U'.heap L ∧ FrameEnd U o U' L ({ frames := 1, cells := 0, slots := 0, locals := 12 } : Room).cells ({ frames := 1, cells := 0, slots := 0, locals := 12 } : Room).slots) := by
  refine MetFree.of_bodySF (plainFor_of_name pn_1) hisR ?_
  intro p e s m args below meth c s₁ Bd hml0 hP hK
  obtain ⟨rfl, hZ, hh⟩ := hP
  have hx := Bd.exec
  have hby := Bd.bytes
  have hml : c.maxLocals = 3 := hml0
  have hown : s.vm.findClass "com/example/termwell/termwell/core/text/RegexNode$Anchor" = some m.cls := findClass_of_methodNamed Bd.named
  have hnm := (name_of_methodNamed Bd.named Bd.method).1
  have X0 : Stand p l e ({ frames := 1, cells := 0, slots := 0, locals := 12 } : Room) s m #[(.ref w_NOT_WORD_BOUNDARY), (.int vb), (.int va)] below meth c s₁ [] 0 0 := Stand.of_body Bd
  have e0 : s₁.heap = h0 := by rw [← hh, Bd.state]; rfl
  have N0 := Fr.nil n0
  have pre0 : ∀ t, Steps p.tables e below (s₁.setTop (mkF m 0 #[.val (.ref w_NOT_WORD_BOUNDARY), .val (.int vb), .val (.int va)] [])) t → Steps p.tables e below (s₁.setTop (entryFrame m #[(.ref w_NOT_WORD_BOUNDARY), (.int vb), (.int va)] 3)) t := fun t k => castTop (by first | (simp [entryFrame, mkF, argsToLocals, Value.category]; done) | rfl) k
  obtain ⟨cq1, kq1, q1a, q1b, q1c⟩ := isOf hZ e0 E_w_NOT_WORD_BOUNDARY
  obtain ⟨_, _, ⟨T1, L1, k1, n1⟩, -, X1, ⟨Lc1, hQ1, l1, y1, z1⟩, st1⟩ := X0.virtualBackUp hx (x := (⟨"com/example/termwell/termwell/core/text/RegexNode$Anchor", "ordinal", "()I"⟩ : MethodName)) (y := (⟨"java/lang/Enum", "ordinal", "()I"⟩ : MethodName)) (owner := "java/lang/Enum") hown (mvT hZ (hw _ (List.mem_of_getElem? (i := 9) rfl))) (mvT hZ (hw _ (List.mem_of_getElem? (i := 10) rfl))) (mvT hZ (hw _ (List.mem_of_getElem? (i := 11) rfl))) (by decide) (mvT hZ (hw _ (List.mem_of_getElem? (i := 13) rfl))) (mvT hZ (hw _ (List.mem_of_getElem? (i := 12) rfl))) (backOf (W := 0) (rm2_w_NOT_WORD_BOUNDARY l Z a0 hw [] w_NOT_WORD_BOUNDARY h0 n0 Z0 F_ordinal_w_NOT_WORD_BOUNDARY) hZ (hw _ (List.mem_of_getElem? (i := 15) rfl)) (hw _ (List.mem_of_getElem? (i := 14) rfl)) (by decide) (by decide)) q1a q1c (g := (mkF m 1 #[.val (.ref w_NOT_WORD_BOUNDARY), .val (.int vb), .val (.int va)] [(.ref w_NOT_WORD_BOUNDARY)])) rfl (by rw [hml]; rfl) (Steps.refl _) (argsL := []) (rest := []) (lenOf pd___I rfl) rfl (by show 2 * 0 + _ ≤ _; exact Nat.le_of_eq rfl) (hb hby d1_1) (fun _ _ => ⟨rfl, e0, (by decide : 0 + 0 ≤ _), (by decide : 0 + 0 ≤ _)⟩)
  dsimp only [Pt.U, Pt.locs, Pt.cells, Pt.slots] at X1 l1 y1 z1 st1 hQ1
  subst l1 y1 z1
  obtain ⟨rfl, N1q, e1⟩ := hQ1
  have N1 := Fr.app N0 N1q
  obtain ⟨fs, hr, hrun, hended, hW, hsame⟩ := X1.leave (v := some (.int 1)) (fun h => by rw [Bd.returns] at h; cases h)
  refine ⟨_, _, pre0 _ ?_, hrun, hended, _, _, rfl, ?_, ⟨_, rfl⟩, hW, hsame.mono (by decide) (by decide)⟩
  · show Steps p.tables e below (s₁.setTop (mkF m 0 #[.val (.ref w_NOT_WORD_BOUNDARY), .val (.int vb), .val (.int va)] [])) _
    refine XS.aloadN X0.here hx rfl (hb hby d1_0) rfl rfl ?_
    show Steps p.tables e below (s₁.setTop (mkF m 1 #[.val (.ref w_NOT_WORD_BOUNDARY), .val (.int vb), .val (.int va)] [(.ref w_NOT_WORD_BOUNDARY)])) _
    refine st1.trans ?_
    show Steps p.tables e below (T1.setTop (mkF m 4 #[.val (.ref w_NOT_WORD_BOUNDARY), .val (.int vb), .val (.int va)] [(.int 5)])) _
    refine XS.tswIn X1.here hx rfl (pc0 := 4) (pc' := 143) rfl (hb hby d1_4) rfl (by decide) (o := 139) (by decide) (by decide) (by decide) ?_
    show Steps p.tables e below (T1.setTop (mkF m 143 #[.val (.ref w_NOT_WORD_BOUNDARY), .val (.int vb), .val (.int va)] [])) _
    refine XS.iloadN X1.here hx rfl (hb hby d1_143) rfl ?_
    show Steps p.tables e below (T1.setTop (mkF m 144 #[.val (.ref w_NOT_WORD_BOUNDARY), .val (.int vb), .val (.int va)] [(.int vb)])) _
    refine XS.iconst X1.here hx rfl (hb hby d1_144) ?_
    show Steps p.tables e below (T1.setTop (mkF m 145 #[.val (.ref w_NOT_WORD_BOUNDARY), .val (.int vb), .val (.int va)] [(.int 2), (.int vb)])) _
    refine XS.icmpNo X1.here hx rfl (hb hby d1_145) rfl (teq hc145).2 ?_
    show Steps p.tables e below (T1.setTop (mkF m 148 #[.val (.ref w_NOT_WORD_BOUNDARY), .val (.int vb), .val (.int va)] [])) _
    refine XS.iconst X1.here hx rfl (hb hby d1_148) ?_
    show Steps p.tables e below (T1.setTop (mkF m 149 #[.val (.ref w_NOT_WORD_BOUNDARY), .val (.int vb), .val (.int va)] [(.int 1)])) _
    refine XS.goto X1.here hx rfl (pc0 := 149) (pc' := 153) rfl (hb hby d1_149) (by decide) (by decide) ?_
    show Steps p.tables e below (T1.setTop (mkF m 153 #[.val (.ref w_NOT_WORD_BOUNDARY), .val (.int vb), .val (.int va)] [(.int 1)])) _
    refine XS.iloadN X1.here hx rfl (hb hby d1_153) rfl ?_
    show Steps p.tables e below (T1.setTop (mkF m 154 #[.val (.ref w_NOT_WORD_BOUNDARY), .val (.int vb), .val (.int va)] [(.int va), (.int 1)])) _
    refine XS.iconst X1.here hx rfl (hb hby d1_154) ?_
    show Steps p.tables e below (T1.setTop (mkF m 155 #[.val (.ref w_NOT_WORD_BOUNDARY), .val (.int vb), .val (.int va)] [(.int 2), (.int va), (.int 1)])) _
    refine XS.icmpNo X1.here hx rfl (hb hby d1_155) rfl (teq hc155).2 ?_
    show Steps p.tables e below (T1.setTop (mkF m 158 #[.val (.ref w_NOT_WORD_BOUNDARY), .val (.int vb), .val (.int va)] [(.int 1)])) _
    refine XS.iconst X1.here hx rfl (hb hby d1_158) ?_
    show Steps p.tables e below (T1.setTop (mkF m 159 #[.val (.ref w_NOT_WORD_BOUNDARY), .val (.int vb), .val (.int va)] [(.int 1), (.int 1)])) _
    refine XS.goto X1.here hx rfl (pc0 := 159) (pc' := 163) rfl (hb hby d1_159) (by decide) (by decide) ?_
    show Steps p.tables e below (T1.setTop (mkF m 163 #[.val (.ref w_NOT_WORD_BOUNDARY), .val (.int vb), .val (.int va)] [(.int 1), (.int 1)])) _
    refine XS.icmpNo X1.here hx rfl (hb hby d1_163) rfl (teq (by decide : (1 : Int32) = (1 : Int32))).2 ?_
    show Steps p.tables e below (T1.setTop (mkF m 166 #[.val (.ref w_NOT_WORD_BOUNDARY), .val (.int vb), .val (.int va)] [])) _
    refine XS.iconst X1.here hx rfl (hb hby d1_166) ?_
    show Steps p.tables e below (T1.setTop (mkF m 167 #[.val (.ref w_NOT_WORD_BOUNDARY), .val (.int vb), .val (.int va)] [(.int 1)])) _
    refine XS.goto X1.here hx rfl (pc0 := 167) (pc' := 171) rfl (hb hby d1_167) (by decide) (by decide) ?_
    show Steps p.tables e below (T1.setTop (mkF m 171 #[.val (.ref w_NOT_WORD_BOUNDARY), .val (.int vb), .val (.int va)] [(.int 1)])) _
    exact retN X1 hx (t := .boolean) Bd.returns (by simp) (hb hby d1_171) hr
  · show Q1_w_NOT_WORD_BOUNDARY_vb_va_rff Z w_NOT_WORD_BOUNDARY vb va h0 n0 _ T1.heap _
    rw [e1]
    exact ⟨rfl, N1, rfl⟩
def Q0_k5ff (Z : State) (p1 : Int32) (p2 : Int32) (p3 : Int32) (vb : Int32) (va : Int32) (w_NOT_WORD_BOUNDARY : Addr) (h0 : Heap) (n0 : Nat) (v : Option Value) (h : Heap) (L : List Loc) : Prop := v = some (.int 1) ∧ Fr n0 L ∧ h = h0
set_option maxRecDepth 65536 in
set_option maxHeartbeats 40000000 in
theorem rm0_k5ff (l : Launch) (Z : State) (a0 : Array Value) (hw : ∀ d ∈ tables_1, d.before a0 Z = true) (ws : List Jvm.Cond) (p1 : Int32) (p2 : Int32) (p3 : Int32) (vb : Int32) (va : Int32) (w_NOT_WORD_BOUNDARY : Addr) (h0 : Heap) (n0 : Nat) (Z0 : n0 ≤ h0.size) (hk : ((p1 &&& (2147483647 : Int32)) % (6 : Int32)) = (5 : Int32)) (hvb : (p2 &&& (3 : Int32)) = vb) (hva : (p3 &&& (3 : Int32)) = va) (S_NOT_WORD_BOUNDARY : Sta Z h0 "com/example/termwell/termwell/core/text/RegexNode$Anchor" "NOT_WORD_BOUNDARY" "Lcom/example/termwell/termwell/core/text/RegexNode$Anchor;" (.ref w_NOT_WORD_BOUNDARY)) (he : ((((46267 : Int32).toUInt32 >>> (((vb * (4 : Int32)) + va) &&& 31).toUInt32).toInt32) &&& (1 : Int32)) = (1 : Int32)) (F_ordinal_w_NOT_WORD_BOUNDARY : Fld Z h0 w_NOT_WORD_BOUNDARY "java/lang/Enum" "ordinal" "I" (.int 5)) (E_w_NOT_WORD_BOUNDARY : Exa Z h0 w_NOT_WORD_BOUNDARY "com/example/termwell/termwell/core/text/RegexNode$Anchor") (hc145 : vb = (2 : Int32)) (hc155 : va = (2 : Int32)) :
    MetFree l x (head1 (Jvm.Cond.code x code maxLocals ret :: ws) room_1) (fun a U => a = #[(.int p1), (.int p2), (.int p3)] ∧ Z.Warmed39 U.vm ∧ U.heap = h0) (fun _ _ _ _ _ => True) (fun _ U o U' => ∃ v L, o = .returned v ∧ Q0_k5ff Z p1 p2 p3 vb va w_NOT_WORD_BOUNDARY h0 n0 v U'.heap L ∧ FrameEnd U o U' L room_1.cells room_1.slots) := by
  refine MetFree.of_bodySF (plainFor_of_name pn_0) hisR ?_
  intro p e s m args below meth c s₁ Bd hml0 hP hK
  obtain ⟨rfl, hZ, hh⟩ := hP
  have hx := Bd.exec
  have hby := Bd.bytes
  have hml : c.maxLocals = 9 := hml0
  have hown : s.vm.findClass "com/example/termwell/termwell/core/text/AnchorHoldsPinLaw" = some m.cls := findClass_of_methodNamed Bd.named
  have hnm := (name_of_methodNamed Bd.named Bd.method).1
  have X0 : Stand p l e room_1 s m #[(.int p1), (.int p2), (.int p3)] below meth c s₁ [] 0 0 := Stand.of_body Bd
  have e0 : s₁.heap = h0 := by rw [← hh, Bd.state]; rfl
  have N0 := Fr.nil n0
  have pre0 : ∀ t, Steps p.tables e below (s₁.setTop (mkF m 0 #[.val (.int p1), .val (.int p2), .val (.int p3), .unset, .unset, .unset, .unset, .unset, .unset] [])) t → Steps p.tables e below (s₁.setTop (entryFrame m #[(.int p1), (.int p2), (.int p3)] maxLocals)) t := fun t k => castTop (by first | (simp [entryFrame, mkF, argsToLocals, Value.category, maxLocals]; done) | rfl) k
  obtain ⟨T1, X1, e1, st1⟩ := getS2 X0 hx hZ hown (host := "") (Or.inl (hw _ (List.mem_of_getElem? (i := 22) rfl))) Via.refl e0 S_NOT_WORD_BOUNDARY (g := (mkF m 106 #[.val (.int p1), .val (.int p2), .val (.int p3), .val (.int 5), .val (.int vb), .val (.int va), .unset, .unset, .unset] [])) rfl (hb hby at_106)
  obtain ⟨cq2, kq2, q2a, q2b, q2c⟩ := isOf hZ e1 E_w_NOT_WORD_BOUNDARY
  obtain ⟨_, _, ⟨T2, L2, k2, n2⟩, -, X2, ⟨Lc2, hQ2, l2, y2, z2⟩, st2⟩ := X1.virtualBack hx (y := (⟨"com/example/termwell/termwell/core/text/RegexNode$Anchor", "holds", "(II)Z"⟩ : MethodName)) (z := (⟨"com/example/termwell/termwell/core/text/RegexNode$Anchor", "holds", "(II)Z"⟩ : MethodName)) hown (mvT hZ (hw _ (List.mem_of_getElem? (i := 4) rfl))) (mvT hZ (hw _ (List.mem_of_getElem? (i := 5) rfl))) (notFace_of_selects (args := #[]) (mvT hZ (hw _ (List.mem_of_getElem? (i := 7) rfl)))) (mvT hZ (hw _ (List.mem_of_getElem? (i := 7) rfl))) (mvT hZ (hw _ (List.mem_of_getElem? (i := 6) rfl))) (by decide) (backOf (W := 0) (rm1_w_NOT_WORD_BOUNDARY_vb_va_rff l Z a0 hw [] w_NOT_WORD_BOUNDARY vb va h0 n0 Z0 F_ordinal_w_NOT_WORD_BOUNDARY E_w_NOT_WORD_BOUNDARY hc145 hc155) hZ (hw _ (List.mem_of_getElem? (i := 8) rfl)) (hw _ (List.mem_of_getElem? (i := 2) rfl)) (by decide) (by decide)) q2a q2c (g := (mkF m 143 #[.val (.int p1), .val (.int p2), .val (.int p3), .val (.int 5), .val (.int vb), .val (.int va), .val (.ref w_NOT_WORD_BOUNDARY), .val (.int 46267), .val (.int 1)] [(.int va), (.int vb), (.ref w_NOT_WORD_BOUNDARY)])) rfl (by rw [hml]; rfl) (Steps.refl _) (argsL := [(.int vb), (.int va)]) (rest := []) (lenOf pd__II_Z rfl) rfl (by show 2 * 0 + _ ≤ _; exact Nat.le_of_eq rfl) (hb hby at_143) (fun _ _ => ⟨rfl, e1, (by decide : 0 + 0 ≤ _), (by decide : 0 + 0 ≤ _)⟩)
  dsimp only [Pt.U, Pt.locs, Pt.cells, Pt.slots] at X2 l2 y2 z2 st2 hQ2
  subst l2 y2 z2
  obtain ⟨rfl, N2q, e2⟩ := hQ2
  have N2 := Fr.app N0 N2q
  obtain ⟨fs, hr, hrun, hended, hW, hsame⟩ := X2.leave (v := some (.int 1)) (fun h => by rw [Bd.returns] at h; cases h)
  refine ⟨_, _, pre0 _ ?_, hrun, hended, _, _, rfl, ?_, ⟨_, rfl⟩, hW, hsame.mono (by decide) (by decide)⟩
  · show Steps p.tables e below (s₁.setTop (mkF m 0 #[.val (.int p1), .val (.int p2), .val (.int p3), .unset, .unset, .unset, .unset, .unset, .unset] [])) _
    refine XS.iloadN X0.here hx rfl (hb hby at_0) rfl ?_
    show Steps p.tables e below (s₁.setTop (mkF m 1 #[.val (.int p1), .val (.int p2), .val (.int p3), .unset, .unset, .unset, .unset, .unset, .unset] [(.int p1)])) _
    refine X0.ldcInt hx hown (mvT hZ (hw _ (List.mem_of_getElem? (i := 0) rfl))) (g := (mkF m 1 #[.val (.int p1), .val (.int p2), .val (.int p3), .unset, .unset, .unset, .unset, .unset, .unset] [(.int p1)])) rfl (hb hby at_1) _ ?_
    show Steps p.tables e below (s₁.setTop (mkF m 3 #[.val (.int p1), .val (.int p2), .val (.int p3), .unset, .unset, .unset, .unset, .unset, .unset] [(.int 2147483647), (.int p1)])) _
    refine XS.iand X0.here hx rfl (hb hby at_3) rfl ?_
    show Steps p.tables e below (s₁.setTop (mkF m 4 #[.val (.int p1), .val (.int p2), .val (.int p3), .unset, .unset, .unset, .unset, .unset, .unset] [(.int (p1 &&& (2147483647 : Int32)))])) _
    refine XS.bipush X0.here hx rfl (hb hby at_4) ?_
    show Steps p.tables e below (s₁.setTop (mkF m 6 #[.val (.int p1), .val (.int p2), .val (.int p3), .unset, .unset, .unset, .unset, .unset, .unset] [(.int 6), (.int (p1 &&& (2147483647 : Int32)))])) _
    refine iremM X0 hx rfl (hb hby at_6) rfl (by decide) ?_
    show Steps p.tables e below (s₁.setTop (mkF m 7 #[.val (.int p1), .val (.int p2), .val (.int p3), .unset, .unset, .unset, .unset, .unset, .unset] [(.int ((p1 &&& (2147483647 : Int32)) % (6 : Int32)))])) _
    rw [hk]
    show Steps p.tables e below (s₁.setTop (mkF m 7 #[.val (.int p1), .val (.int p2), .val (.int p3), .unset, .unset, .unset, .unset, .unset, .unset] [(.int 5)])) _
    refine XS.istoreN X0.here hx rfl (hb hby at_7) rfl (l' := #[.val (.int p1), .val (.int p2), .val (.int p3), .val (.int 5), .unset, .unset, .unset, .unset, .unset]) rfl ?_
    show Steps p.tables e below (s₁.setTop (mkF m 8 #[.val (.int p1), .val (.int p2), .val (.int p3), .val (.int 5), .unset, .unset, .unset, .unset, .unset] [])) _
    refine XS.iloadN X0.here hx rfl (hb hby at_8) rfl ?_
    show Steps p.tables e below (s₁.setTop (mkF m 9 #[.val (.int p1), .val (.int p2), .val (.int p3), .val (.int 5), .unset, .unset, .unset, .unset, .unset] [(.int p2)])) _
    refine XS.iconst X0.here hx rfl (hb hby at_9) ?_
    show Steps p.tables e below (s₁.setTop (mkF m 10 #[.val (.int p1), .val (.int p2), .val (.int p3), .val (.int 5), .unset, .unset, .unset, .unset, .unset] [(.int 3), (.int p2)])) _
    refine XS.iand X0.here hx rfl (hb hby at_10) rfl ?_
    show Steps p.tables e below (s₁.setTop (mkF m 11 #[.val (.int p1), .val (.int p2), .val (.int p3), .val (.int 5), .unset, .unset, .unset, .unset, .unset] [(.int (p2 &&& (3 : Int32)))])) _
    rw [hvb]
    show Steps p.tables e below (s₁.setTop (mkF m 11 #[.val (.int p1), .val (.int p2), .val (.int p3), .val (.int 5), .unset, .unset, .unset, .unset, .unset] [(.int vb)])) _
    refine XS.istore X0.here hx rfl (hb hby at_11) rfl (l' := #[.val (.int p1), .val (.int p2), .val (.int p3), .val (.int 5), .val (.int vb), .unset, .unset, .unset, .unset]) rfl ?_
    show Steps p.tables e below (s₁.setTop (mkF m 13 #[.val (.int p1), .val (.int p2), .val (.int p3), .val (.int 5), .val (.int vb), .unset, .unset, .unset, .unset] [])) _
    refine XS.iloadN X0.here hx rfl (hb hby at_13) rfl ?_
    show Steps p.tables e below (s₁.setTop (mkF m 14 #[.val (.int p1), .val (.int p2), .val (.int p3), .val (.int 5), .val (.int vb), .unset, .unset, .unset, .unset] [(.int p3)])) _
    refine XS.iconst X0.here hx rfl (hb hby at_14) ?_
    show Steps p.tables e below (s₁.setTop (mkF m 15 #[.val (.int p1), .val (.int p2), .val (.int p3), .val (.int 5), .val (.int vb), .unset, .unset, .unset, .unset] [(.int 3), (.int p3)])) _
    refine XS.iand X0.here hx rfl (hb hby at_15) rfl ?_
    show Steps p.tables e below (s₁.setTop (mkF m 16 #[.val (.int p1), .val (.int p2), .val (.int p3), .val (.int 5), .val (.int vb), .unset, .unset, .unset, .unset] [(.int (p3 &&& (3 : Int32)))])) _
    rw [hva]
    show Steps p.tables e below (s₁.setTop (mkF m 16 #[.val (.int p1), .val (.int p2), .val (.int p3), .val (.int 5), .val (.int vb), .unset, .unset, .unset, .unset] [(.int va)])) _
    refine XS.istore X0.here hx rfl (hb hby at_16) rfl (l' := #[.val (.int p1), .val (.int p2), .val (.int p3), .val (.int 5), .val (.int vb), .val (.int va), .unset, .unset, .unset]) rfl ?_
    show Steps p.tables e below (s₁.setTop (mkF m 18 #[.val (.int p1), .val (.int p2), .val (.int p3), .val (.int 5), .val (.int vb), .val (.int va), .unset, .unset, .unset] [])) _
    refine XS.iloadN X0.here hx rfl (hb hby at_18) rfl ?_
    show Steps p.tables e below (s₁.setTop (mkF m 19 #[.val (.int p1), .val (.int p2), .val (.int p3), .val (.int 5), .val (.int vb), .val (.int va), .unset, .unset, .unset] [(.int 5)])) _
    refine XS.ifYes X0.here hx rfl (pc0 := 19) (pc' := 34) rfl (hb hby at_19) rfl ((if0 _ _).trans (feq (by decide : ¬ ((5 : Int32) = (0 : Int32)))).2) (by decide) (by decide) ?_
    show Steps p.tables e below (s₁.setTop (mkF m 34 #[.val (.int p1), .val (.int p2), .val (.int p3), .val (.int 5), .val (.int vb), .val (.int va), .unset, .unset, .unset] [])) _
    refine XS.iloadN X0.here hx rfl (hb hby at_34) rfl ?_
    show Steps p.tables e below (s₁.setTop (mkF m 35 #[.val (.int p1), .val (.int p2), .val (.int p3), .val (.int 5), .val (.int vb), .val (.int va), .unset, .unset, .unset] [(.int 5)])) _
    refine XS.iconst X0.here hx rfl (hb hby at_35) ?_
    show Steps p.tables e below (s₁.setTop (mkF m 36 #[.val (.int p1), .val (.int p2), .val (.int p3), .val (.int 5), .val (.int vb), .val (.int va), .unset, .unset, .unset] [(.int 1), (.int 5)])) _
    refine XS.icmpYes X0.here hx rfl (pc0 := 36) (pc' := 52) rfl (hb hby at_36) rfl (feq (by decide : ¬ ((5 : Int32) = (1 : Int32)))).2 (by decide) (by decide) ?_
    show Steps p.tables e below (s₁.setTop (mkF m 52 #[.val (.int p1), .val (.int p2), .val (.int p3), .val (.int 5), .val (.int vb), .val (.int va), .unset, .unset, .unset] [])) _
    refine XS.iloadN X0.here hx rfl (hb hby at_52) rfl ?_
    show Steps p.tables e below (s₁.setTop (mkF m 53 #[.val (.int p1), .val (.int p2), .val (.int p3), .val (.int 5), .val (.int vb), .val (.int va), .unset, .unset, .unset] [(.int 5)])) _
    refine XS.iconst X0.here hx rfl (hb hby at_53) ?_
    show Steps p.tables e below (s₁.setTop (mkF m 54 #[.val (.int p1), .val (.int p2), .val (.int p3), .val (.int 5), .val (.int vb), .val (.int va), .unset, .unset, .unset] [(.int 2), (.int 5)])) _
    refine XS.icmpYes X0.here hx rfl (pc0 := 54) (pc' := 70) rfl (hb hby at_54) rfl (feq (by decide : ¬ ((5 : Int32) = (2 : Int32)))).2 (by decide) (by decide) ?_
    show Steps p.tables e below (s₁.setTop (mkF m 70 #[.val (.int p1), .val (.int p2), .val (.int p3), .val (.int 5), .val (.int vb), .val (.int va), .unset, .unset, .unset] [])) _
    refine XS.iloadN X0.here hx rfl (hb hby at_70) rfl ?_
    show Steps p.tables e below (s₁.setTop (mkF m 71 #[.val (.int p1), .val (.int p2), .val (.int p3), .val (.int 5), .val (.int vb), .val (.int va), .unset, .unset, .unset] [(.int 5)])) _
    refine XS.iconst X0.here hx rfl (hb hby at_71) ?_
    show Steps p.tables e below (s₁.setTop (mkF m 72 #[.val (.int p1), .val (.int p2), .val (.int p3), .val (.int 5), .val (.int vb), .val (.int va), .unset, .unset, .unset] [(.int 3), (.int 5)])) _
    refine XS.icmpYes X0.here hx rfl (pc0 := 72) (pc' := 88) rfl (hb hby at_72) rfl (feq (by decide : ¬ ((5 : Int32) = (3 : Int32)))).2 (by decide) (by decide) ?_
    show Steps p.tables e below (s₁.setTop (mkF m 88 #[.val (.int p1), .val (.int p2), .val (.int p3), .val (.int 5), .val (.int vb), .val (.int va), .unset, .unset, .unset] [])) _
    refine XS.iloadN X0.here hx rfl (hb hby at_88) rfl ?_
    show Steps p.tables e below (s₁.setTop (mkF m 89 #[.val (.int p1), .val (.int p2), .val (.int p3), .val (.int 5), .val (.int vb), .val (.int va), .unset, .unset, .unset] [(.int 5)])) _
    refine XS.iconst X0.here hx rfl (hb hby at_89) ?_
    show Steps p.tables e below (s₁.setTop (mkF m 90 #[.val (.int p1), .val (.int p2), .val (.int p3), .val (.int 5), .val (.int vb), .val (.int va), .unset, .unset, .unset] [(.int 4), (.int 5)])) _
    refine XS.icmpYes X0.here hx rfl (pc0 := 90) (pc' := 106) rfl (hb hby at_90) rfl (feq (by decide : ¬ ((5 : Int32) = (4 : Int32)))).2 (by decide) (by decide) ?_
    show Steps p.tables e below (s₁.setTop (mkF m 106 #[.val (.int p1), .val (.int p2), .val (.int p3), .val (.int 5), .val (.int vb), .val (.int va), .unset, .unset, .unset] [])) _
    refine st1 _ ?_
    show Steps p.tables e below (T1.setTop (mkF m 109 #[.val (.int p1), .val (.int p2), .val (.int p3), .val (.int 5), .val (.int vb), .val (.int va), .unset, .unset, .unset] [(.ref w_NOT_WORD_BOUNDARY)])) _
    refine XS.astore X1.here hx rfl (hb hby at_109) rfl rfl (l' := #[.val (.int p1), .val (.int p2), .val (.int p3), .val (.int 5), .val (.int vb), .val (.int va), .val (.ref w_NOT_WORD_BOUNDARY), .unset, .unset]) rfl ?_
    show Steps p.tables e below (T1.setTop (mkF m 111 #[.val (.int p1), .val (.int p2), .val (.int p3), .val (.int 5), .val (.int vb), .val (.int va), .val (.ref w_NOT_WORD_BOUNDARY), .unset, .unset] [])) _
    refine X1.ldcInt hx hown (mvT hZ (hw _ (List.mem_of_getElem? (i := 24) rfl))) (g := (mkF m 111 #[.val (.int p1), .val (.int p2), .val (.int p3), .val (.int 5), .val (.int vb), .val (.int va), .val (.ref w_NOT_WORD_BOUNDARY), .unset, .unset] [])) rfl (hb hby at_111) _ ?_
    show Steps p.tables e below (T1.setTop (mkF m 113 #[.val (.int p1), .val (.int p2), .val (.int p3), .val (.int 5), .val (.int vb), .val (.int va), .val (.ref w_NOT_WORD_BOUNDARY), .unset, .unset] [(.int 46267)])) _
    refine XS.istore X1.here hx rfl (hb hby at_113) rfl (l' := #[.val (.int p1), .val (.int p2), .val (.int p3), .val (.int 5), .val (.int vb), .val (.int va), .val (.ref w_NOT_WORD_BOUNDARY), .val (.int 46267), .unset]) rfl ?_
    show Steps p.tables e below (T1.setTop (mkF m 115 #[.val (.int p1), .val (.int p2), .val (.int p3), .val (.int 5), .val (.int vb), .val (.int va), .val (.ref w_NOT_WORD_BOUNDARY), .val (.int 46267), .unset] [])) _
    refine XS.iload X1.here hx rfl (hb hby at_115) rfl ?_
    show Steps p.tables e below (T1.setTop (mkF m 117 #[.val (.int p1), .val (.int p2), .val (.int p3), .val (.int 5), .val (.int vb), .val (.int va), .val (.ref w_NOT_WORD_BOUNDARY), .val (.int 46267), .unset] [(.int 46267)])) _
    refine XS.iload X1.here hx rfl (hb hby at_117) rfl ?_
    show Steps p.tables e below (T1.setTop (mkF m 119 #[.val (.int p1), .val (.int p2), .val (.int p3), .val (.int 5), .val (.int vb), .val (.int va), .val (.ref w_NOT_WORD_BOUNDARY), .val (.int 46267), .unset] [(.int vb), (.int 46267)])) _
    refine XS.iconst X1.here hx rfl (hb hby at_119) ?_
    show Steps p.tables e below (T1.setTop (mkF m 120 #[.val (.int p1), .val (.int p2), .val (.int p3), .val (.int 5), .val (.int vb), .val (.int va), .val (.ref w_NOT_WORD_BOUNDARY), .val (.int 46267), .unset] [(.int 4), (.int vb), (.int 46267)])) _
    refine XS.imul X1.here hx rfl (hb hby at_120) rfl ?_
    show Steps p.tables e below (T1.setTop (mkF m 121 #[.val (.int p1), .val (.int p2), .val (.int p3), .val (.int 5), .val (.int vb), .val (.int va), .val (.ref w_NOT_WORD_BOUNDARY), .val (.int 46267), .unset] [(.int (vb * (4 : Int32))), (.int 46267)])) _
    refine XS.iload X1.here hx rfl (hb hby at_121) rfl ?_
    show Steps p.tables e below (T1.setTop (mkF m 123 #[.val (.int p1), .val (.int p2), .val (.int p3), .val (.int 5), .val (.int vb), .val (.int va), .val (.ref w_NOT_WORD_BOUNDARY), .val (.int 46267), .unset] [(.int va), (.int (vb * (4 : Int32))), (.int 46267)])) _
    refine XS.iadd X1.here hx rfl (hb hby at_123) rfl ?_
    show Steps p.tables e below (T1.setTop (mkF m 124 #[.val (.int p1), .val (.int p2), .val (.int p3), .val (.int 5), .val (.int vb), .val (.int va), .val (.ref w_NOT_WORD_BOUNDARY), .val (.int 46267), .unset] [(.int ((vb * (4 : Int32)) + va)), (.int 46267)])) _
    refine XS.iushr X1.here hx rfl (hb hby at_124) rfl ?_
    show Steps p.tables e below (T1.setTop (mkF m 125 #[.val (.int p1), .val (.int p2), .val (.int p3), .val (.int 5), .val (.int vb), .val (.int va), .val (.ref w_NOT_WORD_BOUNDARY), .val (.int 46267), .unset] [(.int (((46267 : Int32).toUInt32 >>> (((vb * (4 : Int32)) + va) &&& 31).toUInt32).toInt32))])) _
    refine XS.iconst X1.here hx rfl (hb hby at_125) ?_
    show Steps p.tables e below (T1.setTop (mkF m 126 #[.val (.int p1), .val (.int p2), .val (.int p3), .val (.int 5), .val (.int vb), .val (.int va), .val (.ref w_NOT_WORD_BOUNDARY), .val (.int 46267), .unset] [(.int 1), (.int (((46267 : Int32).toUInt32 >>> (((vb * (4 : Int32)) + va) &&& 31).toUInt32).toInt32))])) _
    refine XS.iand X1.here hx rfl (hb hby at_126) rfl ?_
    show Steps p.tables e below (T1.setTop (mkF m 127 #[.val (.int p1), .val (.int p2), .val (.int p3), .val (.int 5), .val (.int vb), .val (.int va), .val (.ref w_NOT_WORD_BOUNDARY), .val (.int 46267), .unset] [(.int ((((46267 : Int32).toUInt32 >>> (((vb * (4 : Int32)) + va) &&& 31).toUInt32).toInt32) &&& (1 : Int32)))])) _
    rw [he]
    show Steps p.tables e below (T1.setTop (mkF m 127 #[.val (.int p1), .val (.int p2), .val (.int p3), .val (.int 5), .val (.int vb), .val (.int va), .val (.ref w_NOT_WORD_BOUNDARY), .val (.int 46267), .unset] [(.int 1)])) _
    refine XS.ifNo X1.here hx rfl (hb hby at_127) rfl ((if0 _ _).trans (feq (by decide : ¬ ((1 : Int32) = (0 : Int32)))).1) ?_
    show Steps p.tables e below (T1.setTop (mkF m 130 #[.val (.int p1), .val (.int p2), .val (.int p3), .val (.int 5), .val (.int vb), .val (.int va), .val (.ref w_NOT_WORD_BOUNDARY), .val (.int 46267), .unset] [])) _
    refine XS.iconst X1.here hx rfl (hb hby at_130) ?_
    show Steps p.tables e below (T1.setTop (mkF m 131 #[.val (.int p1), .val (.int p2), .val (.int p3), .val (.int 5), .val (.int vb), .val (.int va), .val (.ref w_NOT_WORD_BOUNDARY), .val (.int 46267), .unset] [(.int 1)])) _
    refine XS.goto X1.here hx rfl (pc0 := 131) (pc' := 135) rfl (hb hby at_131) (by decide) (by decide) ?_
    show Steps p.tables e below (T1.setTop (mkF m 135 #[.val (.int p1), .val (.int p2), .val (.int p3), .val (.int 5), .val (.int vb), .val (.int va), .val (.ref w_NOT_WORD_BOUNDARY), .val (.int 46267), .unset] [(.int 1)])) _
    refine XS.istore X1.here hx rfl (hb hby at_135) rfl (l' := #[.val (.int p1), .val (.int p2), .val (.int p3), .val (.int 5), .val (.int vb), .val (.int va), .val (.ref w_NOT_WORD_BOUNDARY), .val (.int 46267), .val (.int 1)]) rfl ?_
    show Steps p.tables e below (T1.setTop (mkF m 137 #[.val (.int p1), .val (.int p2), .val (.int p3), .val (.int 5), .val (.int vb), .val (.int va), .val (.ref w_NOT_WORD_BOUNDARY), .val (.int 46267), .val (.int 1)] [])) _
    refine XS.aload X1.here hx rfl (hb hby at_137) rfl rfl ?_
    show Steps p.tables e below (T1.setTop (mkF m 139 #[.val (.int p1), .val (.int p2), .val (.int p3), .val (.int 5), .val (.int vb), .val (.int va), .val (.ref w_NOT_WORD_BOUNDARY), .val (.int 46267), .val (.int 1)] [(.ref w_NOT_WORD_BOUNDARY)])) _
    refine XS.iload X1.here hx rfl (hb hby at_139) rfl ?_
    show Steps p.tables e below (T1.setTop (mkF m 141 #[.val (.int p1), .val (.int p2), .val (.int p3), .val (.int 5), .val (.int vb), .val (.int va), .val (.ref w_NOT_WORD_BOUNDARY), .val (.int 46267), .val (.int 1)] [(.int vb), (.ref w_NOT_WORD_BOUNDARY)])) _
    refine XS.iload X1.here hx rfl (hb hby at_141) rfl ?_
    show Steps p.tables e below (T1.setTop (mkF m 143 #[.val (.int p1), .val (.int p2), .val (.int p3), .val (.int 5), .val (.int vb), .val (.int va), .val (.ref w_NOT_WORD_BOUNDARY), .val (.int 46267), .val (.int 1)] [(.int va), (.int vb), (.ref w_NOT_WORD_BOUNDARY)])) _
    refine st2.trans ?_
    show Steps p.tables e below (T2.setTop (mkF m 146 #[.val (.int p1), .val (.int p2), .val (.int p3), .val (.int 5), .val (.int vb), .val (.int va), .val (.ref w_NOT_WORD_BOUNDARY), .val (.int 46267), .val (.int 1)] [(.int 1)])) _
    refine XS.iload X2.here hx rfl (hb hby at_146) rfl ?_
    show Steps p.tables e below (T2.setTop (mkF m 148 #[.val (.int p1), .val (.int p2), .val (.int p3), .val (.int 5), .val (.int vb), .val (.int va), .val (.ref w_NOT_WORD_BOUNDARY), .val (.int 46267), .val (.int 1)] [(.int 1), (.int 1)])) _
    refine XS.icmpNo X2.here hx rfl (hb hby at_148) rfl (teq (by decide : (1 : Int32) = (1 : Int32))).2 ?_
    show Steps p.tables e below (T2.setTop (mkF m 151 #[.val (.int p1), .val (.int p2), .val (.int p3), .val (.int 5), .val (.int vb), .val (.int va), .val (.ref w_NOT_WORD_BOUNDARY), .val (.int 46267), .val (.int 1)] [])) _
    refine XS.iconst X2.here hx rfl (hb hby at_151) ?_
    show Steps p.tables e below (T2.setTop (mkF m 152 #[.val (.int p1), .val (.int p2), .val (.int p3), .val (.int 5), .val (.int vb), .val (.int va), .val (.ref w_NOT_WORD_BOUNDARY), .val (.int 46267), .val (.int 1)] [(.int 1)])) _
    refine XS.goto X2.here hx rfl (pc0 := 152) (pc' := 156) rfl (hb hby at_152) (by decide) (by decide) ?_
    show Steps p.tables e below (T2.setTop (mkF m 156 #[.val (.int p1), .val (.int p2), .val (.int p3), .val (.int 5), .val (.int vb), .val (.int va), .val (.ref w_NOT_WORD_BOUNDARY), .val (.int 46267), .val (.int 1)] [(.int 1)])) _
    exact retN X2 hx (t := .boolean) Bd.returns (by simp) (hb hby at_156) hr
  · show Q0_k5ff Z p1 p2 p3 vb va w_NOT_WORD_BOUNDARY h0 n0 _ T2.heap _
    rw [e2]
    exact ⟨rfl, N2, rfl⟩
def Q1_w_NOT_WORD_BOUNDARY_vb_va_rft (Z : State) (w_NOT_WORD_BOUNDARY : Addr) (vb : Int32) (va : Int32) (h0 : Heap) (n0 : Nat) (v : Option Value) (h : Heap) (L : List Loc) : Prop := v = some (.int 0) ∧ Fr n0 L ∧ h = h0
set_option maxRecDepth 65536 in
set_option maxHeartbeats 40000000 in
theorem rm1_w_NOT_WORD_BOUNDARY_vb_va_rft (l : Launch) (Z : State) (a0 : Array Value) (hw : ∀ d ∈ tables_1, d.before a0 Z = true) (ws : List Jvm.Cond) (w_NOT_WORD_BOUNDARY : Addr) (vb : Int32) (va : Int32) (h0 : Heap) (n0 : Nat) (Z0 : n0 ≤ h0.size) (F_ordinal_w_NOT_WORD_BOUNDARY : Fld Z h0 w_NOT_WORD_BOUNDARY "java/lang/Enum" "ordinal" "I" (.int 5)) (E_w_NOT_WORD_BOUNDARY : Exa Z h0 w_NOT_WORD_BOUNDARY "com/example/termwell/termwell/core/text/RegexNode$Anchor") (hc145 : vb = (2 : Int32)) (hc155 : ¬ (va = (2 : Int32))) :
    MetFree l (⟨"com/example/termwell/termwell/core/text/RegexNode$Anchor", "holds", "(II)Z"⟩ : MethodName) (head1 (Jvm.Cond.code (⟨"com/example/termwell/termwell/core/text/RegexNode$Anchor", "holds", "(II)Z"⟩ : MethodName) prog_28_method_5_code 3 (some .boolean) :: ws) ({ frames := 1, cells := 0, slots := 0, locals := 12 } : Room)) (fun a U => a = #[(.ref w_NOT_WORD_BOUNDARY), (.int vb), (.int va)] ∧ Z.Warmed39 U.vm ∧ U.heap = h0) (fun _ _ _ _ _ => True) (fun _ U o U' => ∃ v L, o = .returned v ∧ Q1_w_NOT_WORD_BOUNDARY_vb_va_rft Z w_NOT_WORD_BOUNDARY vb va h0 n0 v U'.heap L ∧ FrameEnd U o U' L ({ frames := 1, cells := 0, slots := 0, locals := 12 } : Room).cells ({ frames := 1, cells := 0, slots := 0, locals := 12 } : Room).slots) := by
  refine MetFree.of_bodySF (plainFor_of_name pn_1) hisR ?_
  intro p e s m args below meth c s₁ Bd hml0 hP hK
  obtain ⟨rfl, hZ, hh⟩ := hP
  have hx := Bd.exec
  have hby := Bd.bytes
  have hml : c.maxLocals = 3 := hml0
  have hown : s.vm.findClass "com/example/termwell/termwell/core/text/RegexNode$Anchor" = some m.cls := findClass_of_methodNamed Bd.named
  have hnm := (name_of_methodNamed Bd.named Bd.method).1
  have X0 : Stand p l e ({ frames := 1, cells := 0, slots := 0, locals := 12 } : Room) s m #[(.ref w_NOT_WORD_BOUNDARY), (.int vb), (.int va)] below meth c s₁ [] 0 0 := Stand.of_body Bd
  have e0 : s₁.heap = h0 := by rw [← hh, Bd.state]; rfl
  have N0 := Fr.nil n0
  have pre0 : ∀ t, Steps p.tables e below (s₁.setTop (mkF m 0 #[.val (.ref w_NOT_WORD_BOUNDARY), .val (.int vb), .val (.int va)] [])) t → Steps p.tables e below (s₁.setTop (entryFrame m #[(.ref w_NOT_WORD_BOUNDARY), (.int vb), (.int va)] 3)) t := fun t k => castTop (by first | (simp [entryFrame, mkF, argsToLocals, Value.category]; done) | rfl) k
  obtain ⟨cq1, kq1, q1a, q1b, q1c⟩ := isOf hZ e0 E_w_NOT_WORD_BOUNDARY
  obtain ⟨_, _, ⟨T1, L1, k1, n1⟩, -, X1, ⟨Lc1, hQ1, l1, y1, z1⟩, st1⟩ := X0.virtualBackUp hx (x := (⟨"com/example/termwell/termwell/core/text/RegexNode$Anchor", "ordinal", "()I"⟩ : MethodName)) (y := (⟨"java/lang/Enum", "ordinal", "()I"⟩ : MethodName)) (owner := "java/lang/Enum") hown (mvT hZ (hw _ (List.mem_of_getElem? (i := 9) rfl))) (mvT hZ (hw _ (List.mem_of_getElem? (i := 10) rfl))) (mvT hZ (hw _ (List.mem_of_getElem? (i := 11) rfl))) (by decide) (mvT hZ (hw _ (List.mem_of_getElem? (i := 13) rfl))) (mvT hZ (hw _ (List.mem_of_getElem? (i := 12) rfl))) (backOf (W := 0) (rm2_w_NOT_WORD_BOUNDARY l Z a0 hw [] w_NOT_WORD_BOUNDARY h0 n0 Z0 F_ordinal_w_NOT_WORD_BOUNDARY) hZ (hw _ (List.mem_of_getElem? (i := 15) rfl)) (hw _ (List.mem_of_getElem? (i := 14) rfl)) (by decide) (by decide)) q1a q1c (g := (mkF m 1 #[.val (.ref w_NOT_WORD_BOUNDARY), .val (.int vb), .val (.int va)] [(.ref w_NOT_WORD_BOUNDARY)])) rfl (by rw [hml]; rfl) (Steps.refl _) (argsL := []) (rest := []) (lenOf pd___I rfl) rfl (by show 2 * 0 + _ ≤ _; exact Nat.le_of_eq rfl) (hb hby d1_1) (fun _ _ => ⟨rfl, e0, (by decide : 0 + 0 ≤ _), (by decide : 0 + 0 ≤ _)⟩)
  dsimp only [Pt.U, Pt.locs, Pt.cells, Pt.slots] at X1 l1 y1 z1 st1 hQ1
  subst l1 y1 z1
  obtain ⟨rfl, N1q, e1⟩ := hQ1
  have N1 := Fr.app N0 N1q
  obtain ⟨fs, hr, hrun, hended, hW, hsame⟩ := X1.leave (v := some (.int 0)) (fun h => by rw [Bd.returns] at h; cases h)
  refine ⟨_, _, pre0 _ ?_, hrun, hended, _, _, rfl, ?_, ⟨_, rfl⟩, hW, hsame.mono (by decide) (by decide)⟩
  · show Steps p.tables e below (s₁.setTop (mkF m 0 #[.val (.ref w_NOT_WORD_BOUNDARY), .val (.int vb), .val (.int va)] [])) _
    refine XS.aloadN X0.here hx rfl (hb hby d1_0) rfl rfl ?_
    show Steps p.tables e below (s₁.setTop (mkF m 1 #[.val (.ref w_NOT_WORD_BOUNDARY), .val (.int vb), .val (.int va)] [(.ref w_NOT_WORD_BOUNDARY)])) _
    refine st1.trans ?_
    show Steps p.tables e below (T1.setTop (mkF m 4 #[.val (.ref w_NOT_WORD_BOUNDARY), .val (.int vb), .val (.int va)] [(.int 5)])) _
    refine XS.tswIn X1.here hx rfl (pc0 := 4) (pc' := 143) rfl (hb hby d1_4) rfl (by decide) (o := 139) (by decide) (by decide) (by decide) ?_
    show Steps p.tables e below (T1.setTop (mkF m 143 #[.val (.ref w_NOT_WORD_BOUNDARY), .val (.int vb), .val (.int va)] [])) _
    refine XS.iloadN X1.here hx rfl (hb hby d1_143) rfl ?_
    show Steps p.tables e below (T1.setTop (mkF m 144 #[.val (.ref w_NOT_WORD_BOUNDARY), .val (.int vb), .val (.int va)] [(.int vb)])) _
    refine XS.iconst X1.here hx rfl (hb hby d1_144) ?_
    show Steps p.tables e below (T1.setTop (mkF m 145 #[.val (.ref w_NOT_WORD_BOUNDARY), .val (.int vb), .val (.int va)] [(.int 2), (.int vb)])) _
    refine XS.icmpNo X1.here hx rfl (hb hby d1_145) rfl (teq hc145).2 ?_
    show Steps p.tables e below (T1.setTop (mkF m 148 #[.val (.ref w_NOT_WORD_BOUNDARY), .val (.int vb), .val (.int va)] [])) _
    refine XS.iconst X1.here hx rfl (hb hby d1_148) ?_
    show Steps p.tables e below (T1.setTop (mkF m 149 #[.val (.ref w_NOT_WORD_BOUNDARY), .val (.int vb), .val (.int va)] [(.int 1)])) _
    refine XS.goto X1.here hx rfl (pc0 := 149) (pc' := 153) rfl (hb hby d1_149) (by decide) (by decide) ?_
    show Steps p.tables e below (T1.setTop (mkF m 153 #[.val (.ref w_NOT_WORD_BOUNDARY), .val (.int vb), .val (.int va)] [(.int 1)])) _
    refine XS.iloadN X1.here hx rfl (hb hby d1_153) rfl ?_
    show Steps p.tables e below (T1.setTop (mkF m 154 #[.val (.ref w_NOT_WORD_BOUNDARY), .val (.int vb), .val (.int va)] [(.int va), (.int 1)])) _
    refine XS.iconst X1.here hx rfl (hb hby d1_154) ?_
    show Steps p.tables e below (T1.setTop (mkF m 155 #[.val (.ref w_NOT_WORD_BOUNDARY), .val (.int vb), .val (.int va)] [(.int 2), (.int va), (.int 1)])) _
    refine XS.icmpYes X1.here hx rfl (pc0 := 155) (pc' := 162) rfl (hb hby d1_155) rfl (feq hc155).2 (by decide) (by decide) ?_
    show Steps p.tables e below (T1.setTop (mkF m 162 #[.val (.ref w_NOT_WORD_BOUNDARY), .val (.int vb), .val (.int va)] [(.int 1)])) _
    refine XS.iconst X1.here hx rfl (hb hby d1_162) ?_
    show Steps p.tables e below (T1.setTop (mkF m 163 #[.val (.ref w_NOT_WORD_BOUNDARY), .val (.int vb), .val (.int va)] [(.int 0), (.int 1)])) _
    refine XS.icmpYes X1.here hx rfl (pc0 := 163) (pc' := 170) rfl (hb hby d1_163) rfl (feq (by decide : ¬ ((1 : Int32) = (0 : Int32)))).2 (by decide) (by decide) ?_
    show Steps p.tables e below (T1.setTop (mkF m 170 #[.val (.ref w_NOT_WORD_BOUNDARY), .val (.int vb), .val (.int va)] [])) _
    refine XS.iconst X1.here hx rfl (hb hby d1_170) ?_
    show Steps p.tables e below (T1.setTop (mkF m 171 #[.val (.ref w_NOT_WORD_BOUNDARY), .val (.int vb), .val (.int va)] [(.int 0)])) _
    exact retN X1 hx (t := .boolean) Bd.returns (by simp) (hb hby d1_171) hr
  · show Q1_w_NOT_WORD_BOUNDARY_vb_va_rft Z w_NOT_WORD_BOUNDARY vb va h0 n0 _ T1.heap _
    rw [e1]
    exact ⟨rfl, N1, rfl⟩
def Q0_k5ft (Z : State) (p1 : Int32) (p2 : Int32) (p3 : Int32) (vb : Int32) (va : Int32) (w_NOT_WORD_BOUNDARY : Addr) (h0 : Heap) (n0 : Nat) (v : Option Value) (h : Heap) (L : List Loc) : Prop := v = some (.int 1) ∧ Fr n0 L ∧ h = h0
set_option maxRecDepth 65536 in
set_option maxHeartbeats 40000000 in
theorem rm0_k5ft (l : Launch) (Z : State) (a0 : Array Value) (hw : ∀ d ∈ tables_1, d.before a0 Z = true) (ws : List Jvm.Cond) (p1 : Int32) (p2 : Int32) (p3 : Int32) (vb : Int32) (va : Int32) (w_NOT_WORD_BOUNDARY : Addr) (h0 : Heap) (n0 : Nat) (Z0 : n0 ≤ h0.size) (hk : ((p1 &&& (2147483647 : Int32)) % (6 : Int32)) = (5 : Int32)) (hvb : (p2 &&& (3 : Int32)) = vb) (hva : (p3 &&& (3 : Int32)) = va) (S_NOT_WORD_BOUNDARY : Sta Z h0 "com/example/termwell/termwell/core/text/RegexNode$Anchor" "NOT_WORD_BOUNDARY" "Lcom/example/termwell/termwell/core/text/RegexNode$Anchor;" (.ref w_NOT_WORD_BOUNDARY)) (he : ((((46267 : Int32).toUInt32 >>> (((vb * (4 : Int32)) + va) &&& 31).toUInt32).toInt32) &&& (1 : Int32)) = (0 : Int32)) (F_ordinal_w_NOT_WORD_BOUNDARY : Fld Z h0 w_NOT_WORD_BOUNDARY "java/lang/Enum" "ordinal" "I" (.int 5)) (E_w_NOT_WORD_BOUNDARY : Exa Z h0 w_NOT_WORD_BOUNDARY "com/example/termwell/termwell/core/text/RegexNode$Anchor") (hc145 : vb = (2 : Int32)) (hc155 : ¬ (va = (2 : Int32))) :
    MetFree l x (head1 (Jvm.Cond.code x code maxLocals ret :: ws) room_1) (fun a U => a = #[(.int p1), (.int p2), (.int p3)] ∧ Z.Warmed39 U.vm ∧ U.heap = h0) (fun _ _ _ _ _ => True) (fun _ U o U' => ∃ v L, o = .returned v ∧ Q0_k5ft Z p1 p2 p3 vb va w_NOT_WORD_BOUNDARY h0 n0 v U'.heap L ∧ FrameEnd U o U' L room_1.cells room_1.slots) := by
  refine MetFree.of_bodySF (plainFor_of_name pn_0) hisR ?_
  intro p e s m args below meth c s₁ Bd hml0 hP hK
  obtain ⟨rfl, hZ, hh⟩ := hP
  have hx := Bd.exec
  have hby := Bd.bytes
  have hml : c.maxLocals = 9 := hml0
  have hown : s.vm.findClass "com/example/termwell/termwell/core/text/AnchorHoldsPinLaw" = some m.cls := findClass_of_methodNamed Bd.named
  have hnm := (name_of_methodNamed Bd.named Bd.method).1
  have X0 : Stand p l e room_1 s m #[(.int p1), (.int p2), (.int p3)] below meth c s₁ [] 0 0 := Stand.of_body Bd
  have e0 : s₁.heap = h0 := by rw [← hh, Bd.state]; rfl
  have N0 := Fr.nil n0
  have pre0 : ∀ t, Steps p.tables e below (s₁.setTop (mkF m 0 #[.val (.int p1), .val (.int p2), .val (.int p3), .unset, .unset, .unset, .unset, .unset, .unset] [])) t → Steps p.tables e below (s₁.setTop (entryFrame m #[(.int p1), (.int p2), (.int p3)] maxLocals)) t := fun t k => castTop (by first | (simp [entryFrame, mkF, argsToLocals, Value.category, maxLocals]; done) | rfl) k
  obtain ⟨T1, X1, e1, st1⟩ := getS2 X0 hx hZ hown (host := "") (Or.inl (hw _ (List.mem_of_getElem? (i := 22) rfl))) Via.refl e0 S_NOT_WORD_BOUNDARY (g := (mkF m 106 #[.val (.int p1), .val (.int p2), .val (.int p3), .val (.int 5), .val (.int vb), .val (.int va), .unset, .unset, .unset] [])) rfl (hb hby at_106)
  obtain ⟨cq2, kq2, q2a, q2b, q2c⟩ := isOf hZ e1 E_w_NOT_WORD_BOUNDARY
  obtain ⟨_, _, ⟨T2, L2, k2, n2⟩, -, X2, ⟨Lc2, hQ2, l2, y2, z2⟩, st2⟩ := X1.virtualBack hx (y := (⟨"com/example/termwell/termwell/core/text/RegexNode$Anchor", "holds", "(II)Z"⟩ : MethodName)) (z := (⟨"com/example/termwell/termwell/core/text/RegexNode$Anchor", "holds", "(II)Z"⟩ : MethodName)) hown (mvT hZ (hw _ (List.mem_of_getElem? (i := 4) rfl))) (mvT hZ (hw _ (List.mem_of_getElem? (i := 5) rfl))) (notFace_of_selects (args := #[]) (mvT hZ (hw _ (List.mem_of_getElem? (i := 7) rfl)))) (mvT hZ (hw _ (List.mem_of_getElem? (i := 7) rfl))) (mvT hZ (hw _ (List.mem_of_getElem? (i := 6) rfl))) (by decide) (backOf (W := 0) (rm1_w_NOT_WORD_BOUNDARY_vb_va_rft l Z a0 hw [] w_NOT_WORD_BOUNDARY vb va h0 n0 Z0 F_ordinal_w_NOT_WORD_BOUNDARY E_w_NOT_WORD_BOUNDARY hc145 hc155) hZ (hw _ (List.mem_of_getElem? (i := 8) rfl)) (hw _ (List.mem_of_getElem? (i := 2) rfl)) (by decide) (by decide)) q2a q2c (g := (mkF m 143 #[.val (.int p1), .val (.int p2), .val (.int p3), .val (.int 5), .val (.int vb), .val (.int va), .val (.ref w_NOT_WORD_BOUNDARY), .val (.int 46267), .val (.int 0)] [(.int va), (.int vb), (.ref w_NOT_WORD_BOUNDARY)])) rfl (by rw [hml]; rfl) (Steps.refl _) (argsL := [(.int vb), (.int va)]) (rest := []) (lenOf pd__II_Z rfl) rfl (by show 2 * 0 + _ ≤ _; exact Nat.le_of_eq rfl) (hb hby at_143) (fun _ _ => ⟨rfl, e1, (by decide : 0 + 0 ≤ _), (by decide : 0 + 0 ≤ _)⟩)
  dsimp only [Pt.U, Pt.locs, Pt.cells, Pt.slots] at X2 l2 y2 z2 st2 hQ2
  subst l2 y2 z2
  obtain ⟨rfl, N2q, e2⟩ := hQ2
  have N2 := Fr.app N0 N2q
  obtain ⟨fs, hr, hrun, hended, hW, hsame⟩ := X2.leave (v := some (.int 1)) (fun h => by rw [Bd.returns] at h; cases h)
  refine ⟨_, _, pre0 _ ?_, hrun, hended, _, _, rfl, ?_, ⟨_, rfl⟩, hW, hsame.mono (by decide) (by decide)⟩
  · show Steps p.tables e below (s₁.setTop (mkF m 0 #[.val (.int p1), .val (.int p2), .val (.int p3), .unset, .unset, .unset, .unset, .unset, .unset] [])) _
    refine XS.iloadN X0.here hx rfl (hb hby at_0) rfl ?_
    show Steps p.tables e below (s₁.setTop (mkF m 1 #[.val (.int p1), .val (.int p2), .val (.int p3), .unset, .unset, .unset, .unset, .unset, .unset] [(.int p1)])) _
    refine X0.ldcInt hx hown (mvT hZ (hw _ (List.mem_of_getElem? (i := 0) rfl))) (g := (mkF m 1 #[.val (.int p1), .val (.int p2), .val (.int p3), .unset, .unset, .unset, .unset, .unset, .unset] [(.int p1)])) rfl (hb hby at_1) _ ?_
    show Steps p.tables e below (s₁.setTop (mkF m 3 #[.val (.int p1), .val (.int p2), .val (.int p3), .unset, .unset, .unset, .unset, .unset, .unset] [(.int 2147483647), (.int p1)])) _
    refine XS.iand X0.here hx rfl (hb hby at_3) rfl ?_
    show Steps p.tables e below (s₁.setTop (mkF m 4 #[.val (.int p1), .val (.int p2), .val (.int p3), .unset, .unset, .unset, .unset, .unset, .unset] [(.int (p1 &&& (2147483647 : Int32)))])) _
    refine XS.bipush X0.here hx rfl (hb hby at_4) ?_
    show Steps p.tables e below (s₁.setTop (mkF m 6 #[.val (.int p1), .val (.int p2), .val (.int p3), .unset, .unset, .unset, .unset, .unset, .unset] [(.int 6), (.int (p1 &&& (2147483647 : Int32)))])) _
    refine iremM X0 hx rfl (hb hby at_6) rfl (by decide) ?_
    show Steps p.tables e below (s₁.setTop (mkF m 7 #[.val (.int p1), .val (.int p2), .val (.int p3), .unset, .unset, .unset, .unset, .unset, .unset] [(.int ((p1 &&& (2147483647 : Int32)) % (6 : Int32)))])) _
    rw [hk]
    show Steps p.tables e below (s₁.setTop (mkF m 7 #[.val (.int p1), .val (.int p2), .val (.int p3), .unset, .unset, .unset, .unset, .unset, .unset] [(.int 5)])) _
    refine XS.istoreN X0.here hx rfl (hb hby at_7) rfl (l' := #[.val (.int p1), .val (.int p2), .val (.int p3), .val (.int 5), .unset, .unset, .unset, .unset, .unset]) rfl ?_
    show Steps p.tables e below (s₁.setTop (mkF m 8 #[.val (.int p1), .val (.int p2), .val (.int p3), .val (.int 5), .unset, .unset, .unset, .unset, .unset] [])) _
    refine XS.iloadN X0.here hx rfl (hb hby at_8) rfl ?_
    show Steps p.tables e below (s₁.setTop (mkF m 9 #[.val (.int p1), .val (.int p2), .val (.int p3), .val (.int 5), .unset, .unset, .unset, .unset, .unset] [(.int p2)])) _
    refine XS.iconst X0.here hx rfl (hb hby at_9) ?_
    show Steps p.tables e below (s₁.setTop (mkF m 10 #[.val (.int p1), .val (.int p2), .val (.int p3), .val (.int 5), .unset, .unset, .unset, .unset, .unset] [(.int 3), (.int p2)])) _
    refine XS.iand X0.here hx rfl (hb hby at_10) rfl ?_
    show Steps p.tables e below (s₁.setTop (mkF m 11 #[.val (.int p1), .val (.int p2), .val (.int p3), .val (.int 5), .unset, .unset, .unset, .unset, .unset] [(.int (p2 &&& (3 : Int32)))])) _
    rw [hvb]
    show Steps p.tables e below (s₁.setTop (mkF m 11 #[.val (.int p1), .val (.int p2), .val (.int p3), .val (.int 5), .unset, .unset, .unset, .unset, .unset] [(.int vb)])) _
    refine XS.istore X0.here hx rfl (hb hby at_11) rfl (l' := #[.val (.int p1), .val (.int p2), .val (.int p3), .val (.int 5), .val (.int vb), .unset, .unset, .unset, .unset]) rfl ?_
    show Steps p.tables e below (s₁.setTop (mkF m 13 #[.val (.int p1), .val (.int p2), .val (.int p3), .val (.int 5), .val (.int vb), .unset, .unset, .unset, .unset] [])) _
    refine XS.iloadN X0.here hx rfl (hb hby at_13) rfl ?_
    show Steps p.tables e below (s₁.setTop (mkF m 14 #[.val (.int p1), .val (.int p2), .val (.int p3), .val (.int 5), .val (.int vb), .unset, .unset, .unset, .unset] [(.int p3)])) _
    refine XS.iconst X0.here hx rfl (hb hby at_14) ?_
    show Steps p.tables e below (s₁.setTop (mkF m 15 #[.val (.int p1), .val (.int p2), .val (.int p3), .val (.int 5), .val (.int vb), .unset, .unset, .unset, .unset] [(.int 3), (.int p3)])) _
    refine XS.iand X0.here hx rfl (hb hby at_15) rfl ?_
    show Steps p.tables e below (s₁.setTop (mkF m 16 #[.val (.int p1), .val (.int p2), .val (.int p3), .val (.int 5), .val (.int vb), .unset, .unset, .unset, .unset] [(.int (p3 &&& (3 : Int32)))])) _
    rw [hva]
    show Steps p.tables e below (s₁.setTop (mkF m 16 #[.val (.int p1), .val (.int p2), .val (.int p3), .val (.int 5), .val (.int vb), .unset, .unset, .unset, .unset] [(.int va)])) _
    refine XS.istore X0.here hx rfl (hb hby at_16) rfl (l' := #[.val (.int p1), .val (.int p2), .val (.int p3), .val (.int 5), .val (.int vb), .val (.int va), .unset, .unset, .unset]) rfl ?_
    show Steps p.tables e below (s₁.setTop (mkF m 18 #[.val (.int p1), .val (.int p2), .val (.int p3), .val (.int 5), .val (.int vb), .val (.int va), .unset, .unset, .unset] [])) _
    refine XS.iloadN X0.here hx rfl (hb hby at_18) rfl ?_
    show Steps p.tables e below (s₁.setTop (mkF m 19 #[.val (.int p1), .val (.int p2), .val (.int p3), .val (.int 5), .val (.int vb), .val (.int va), .unset, .unset, .unset] [(.int 5)])) _
    refine XS.ifYes X0.here hx rfl (pc0 := 19) (pc' := 34) rfl (hb hby at_19) rfl ((if0 _ _).trans (feq (by decide : ¬ ((5 : Int32) = (0 : Int32)))).2) (by decide) (by decide) ?_
    show Steps p.tables e below (s₁.setTop (mkF m 34 #[.val (.int p1), .val (.int p2), .val (.int p3), .val (.int 5), .val (.int vb), .val (.int va), .unset, .unset, .unset] [])) _
    refine XS.iloadN X0.here hx rfl (hb hby at_34) rfl ?_
    show Steps p.tables e below (s₁.setTop (mkF m 35 #[.val (.int p1), .val (.int p2), .val (.int p3), .val (.int 5), .val (.int vb), .val (.int va), .unset, .unset, .unset] [(.int 5)])) _
    refine XS.iconst X0.here hx rfl (hb hby at_35) ?_
    show Steps p.tables e below (s₁.setTop (mkF m 36 #[.val (.int p1), .val (.int p2), .val (.int p3), .val (.int 5), .val (.int vb), .val (.int va), .unset, .unset, .unset] [(.int 1), (.int 5)])) _
    refine XS.icmpYes X0.here hx rfl (pc0 := 36) (pc' := 52) rfl (hb hby at_36) rfl (feq (by decide : ¬ ((5 : Int32) = (1 : Int32)))).2 (by decide) (by decide) ?_
    show Steps p.tables e below (s₁.setTop (mkF m 52 #[.val (.int p1), .val (.int p2), .val (.int p3), .val (.int 5), .val (.int vb), .val (.int va), .unset, .unset, .unset] [])) _
    refine XS.iloadN X0.here hx rfl (hb hby at_52) rfl ?_
    show Steps p.tables e below (s₁.setTop (mkF m 53 #[.val (.int p1), .val (.int p2), .val (.int p3), .val (.int 5), .val (.int vb), .val (.int va), .unset, .unset, .unset] [(.int 5)])) _
    refine XS.iconst X0.here hx rfl (hb hby at_53) ?_
    show Steps p.tables e below (s₁.setTop (mkF m 54 #[.val (.int p1), .val (.int p2), .val (.int p3), .val (.int 5), .val (.int vb), .val (.int va), .unset, .unset, .unset] [(.int 2), (.int 5)])) _
    refine XS.icmpYes X0.here hx rfl (pc0 := 54) (pc' := 70) rfl (hb hby at_54) rfl (feq (by decide : ¬ ((5 : Int32) = (2 : Int32)))).2 (by decide) (by decide) ?_
    show Steps p.tables e below (s₁.setTop (mkF m 70 #[.val (.int p1), .val (.int p2), .val (.int p3), .val (.int 5), .val (.int vb), .val (.int va), .unset, .unset, .unset] [])) _
    refine XS.iloadN X0.here hx rfl (hb hby at_70) rfl ?_
    show Steps p.tables e below (s₁.setTop (mkF m 71 #[.val (.int p1), .val (.int p2), .val (.int p3), .val (.int 5), .val (.int vb), .val (.int va), .unset, .unset, .unset] [(.int 5)])) _
    refine XS.iconst X0.here hx rfl (hb hby at_71) ?_
    show Steps p.tables e below (s₁.setTop (mkF m 72 #[.val (.int p1), .val (.int p2), .val (.int p3), .val (.int 5), .val (.int vb), .val (.int va), .unset, .unset, .unset] [(.int 3), (.int 5)])) _
    refine XS.icmpYes X0.here hx rfl (pc0 := 72) (pc' := 88) rfl (hb hby at_72) rfl (feq (by decide : ¬ ((5 : Int32) = (3 : Int32)))).2 (by decide) (by decide) ?_
    show Steps p.tables e below (s₁.setTop (mkF m 88 #[.val (.int p1), .val (.int p2), .val (.int p3), .val (.int 5), .val (.int vb), .val (.int va), .unset, .unset, .unset] [])) _
    refine XS.iloadN X0.here hx rfl (hb hby at_88) rfl ?_
    show Steps p.tables e below (s₁.setTop (mkF m 89 #[.val (.int p1), .val (.int p2), .val (.int p3), .val (.int 5), .val (.int vb), .val (.int va), .unset, .unset, .unset] [(.int 5)])) _
    refine XS.iconst X0.here hx rfl (hb hby at_89) ?_
    show Steps p.tables e below (s₁.setTop (mkF m 90 #[.val (.int p1), .val (.int p2), .val (.int p3), .val (.int 5), .val (.int vb), .val (.int va), .unset, .unset, .unset] [(.int 4), (.int 5)])) _
    refine XS.icmpYes X0.here hx rfl (pc0 := 90) (pc' := 106) rfl (hb hby at_90) rfl (feq (by decide : ¬ ((5 : Int32) = (4 : Int32)))).2 (by decide) (by decide) ?_
    show Steps p.tables e below (s₁.setTop (mkF m 106 #[.val (.int p1), .val (.int p2), .val (.int p3), .val (.int 5), .val (.int vb), .val (.int va), .unset, .unset, .unset] [])) _
    refine st1 _ ?_
    show Steps p.tables e below (T1.setTop (mkF m 109 #[.val (.int p1), .val (.int p2), .val (.int p3), .val (.int 5), .val (.int vb), .val (.int va), .unset, .unset, .unset] [(.ref w_NOT_WORD_BOUNDARY)])) _
    refine XS.astore X1.here hx rfl (hb hby at_109) rfl rfl (l' := #[.val (.int p1), .val (.int p2), .val (.int p3), .val (.int 5), .val (.int vb), .val (.int va), .val (.ref w_NOT_WORD_BOUNDARY), .unset, .unset]) rfl ?_
    show Steps p.tables e below (T1.setTop (mkF m 111 #[.val (.int p1), .val (.int p2), .val (.int p3), .val (.int 5), .val (.int vb), .val (.int va), .val (.ref w_NOT_WORD_BOUNDARY), .unset, .unset] [])) _
    refine X1.ldcInt hx hown (mvT hZ (hw _ (List.mem_of_getElem? (i := 24) rfl))) (g := (mkF m 111 #[.val (.int p1), .val (.int p2), .val (.int p3), .val (.int 5), .val (.int vb), .val (.int va), .val (.ref w_NOT_WORD_BOUNDARY), .unset, .unset] [])) rfl (hb hby at_111) _ ?_
    show Steps p.tables e below (T1.setTop (mkF m 113 #[.val (.int p1), .val (.int p2), .val (.int p3), .val (.int 5), .val (.int vb), .val (.int va), .val (.ref w_NOT_WORD_BOUNDARY), .unset, .unset] [(.int 46267)])) _
    refine XS.istore X1.here hx rfl (hb hby at_113) rfl (l' := #[.val (.int p1), .val (.int p2), .val (.int p3), .val (.int 5), .val (.int vb), .val (.int va), .val (.ref w_NOT_WORD_BOUNDARY), .val (.int 46267), .unset]) rfl ?_
    show Steps p.tables e below (T1.setTop (mkF m 115 #[.val (.int p1), .val (.int p2), .val (.int p3), .val (.int 5), .val (.int vb), .val (.int va), .val (.ref w_NOT_WORD_BOUNDARY), .val (.int 46267), .unset] [])) _
    refine XS.iload X1.here hx rfl (hb hby at_115) rfl ?_
    show Steps p.tables e below (T1.setTop (mkF m 117 #[.val (.int p1), .val (.int p2), .val (.int p3), .val (.int 5), .val (.int vb), .val (.int va), .val (.ref w_NOT_WORD_BOUNDARY), .val (.int 46267), .unset] [(.int 46267)])) _
    refine XS.iload X1.here hx rfl (hb hby at_117) rfl ?_
    show Steps p.tables e below (T1.setTop (mkF m 119 #[.val (.int p1), .val (.int p2), .val (.int p3), .val (.int 5), .val (.int vb), .val (.int va), .val (.ref w_NOT_WORD_BOUNDARY), .val (.int 46267), .unset] [(.int vb), (.int 46267)])) _
    refine XS.iconst X1.here hx rfl (hb hby at_119) ?_
    show Steps p.tables e below (T1.setTop (mkF m 120 #[.val (.int p1), .val (.int p2), .val (.int p3), .val (.int 5), .val (.int vb), .val (.int va), .val (.ref w_NOT_WORD_BOUNDARY), .val (.int 46267), .unset] [(.int 4), (.int vb), (.int 46267)])) _
    refine XS.imul X1.here hx rfl (hb hby at_120) rfl ?_
    show Steps p.tables e below (T1.setTop (mkF m 121 #[.val (.int p1), .val (.int p2), .val (.int p3), .val (.int 5), .val (.int vb), .val (.int va), .val (.ref w_NOT_WORD_BOUNDARY), .val (.int 46267), .unset] [(.int (vb * (4 : Int32))), (.int 46267)])) _
    refine XS.iload X1.here hx rfl (hb hby at_121) rfl ?_
    show Steps p.tables e below (T1.setTop (mkF m 123 #[.val (.int p1), .val (.int p2), .val (.int p3), .val (.int 5), .val (.int vb), .val (.int va), .val (.ref w_NOT_WORD_BOUNDARY), .val (.int 46267), .unset] [(.int va), (.int (vb * (4 : Int32))), (.int 46267)])) _
    refine XS.iadd X1.here hx rfl (hb hby at_123) rfl ?_
    show Steps p.tables e below (T1.setTop (mkF m 124 #[.val (.int p1), .val (.int p2), .val (.int p3), .val (.int 5), .val (.int vb), .val (.int va), .val (.ref w_NOT_WORD_BOUNDARY), .val (.int 46267), .unset] [(.int ((vb * (4 : Int32)) + va)), (.int 46267)])) _
    refine XS.iushr X1.here hx rfl (hb hby at_124) rfl ?_
    show Steps p.tables e below (T1.setTop (mkF m 125 #[.val (.int p1), .val (.int p2), .val (.int p3), .val (.int 5), .val (.int vb), .val (.int va), .val (.ref w_NOT_WORD_BOUNDARY), .val (.int 46267), .unset] [(.int (((46267 : Int32).toUInt32 >>> (((vb * (4 : Int32)) + va) &&& 31).toUInt32).toInt32))])) _
    refine XS.iconst X1.here hx rfl (hb hby at_125) ?_
    show Steps p.tables e below (T1.setTop (mkF m 126 #[.val (.int p1), .val (.int p2), .val (.int p3), .val (.int 5), .val (.int vb), .val (.int va), .val (.ref w_NOT_WORD_BOUNDARY), .val (.int 46267), .unset] [(.int 1), (.int (((46267 : Int32).toUInt32 >>> (((vb * (4 : Int32)) + va) &&& 31).toUInt32).toInt32))])) _
    refine XS.iand X1.here hx rfl (hb hby at_126) rfl ?_
    show Steps p.tables e below (T1.setTop (mkF m 127 #[.val (.int p1), .val (.int p2), .val (.int p3), .val (.int 5), .val (.int vb), .val (.int va), .val (.ref w_NOT_WORD_BOUNDARY), .val (.int 46267), .unset] [(.int ((((46267 : Int32).toUInt32 >>> (((vb * (4 : Int32)) + va) &&& 31).toUInt32).toInt32) &&& (1 : Int32)))])) _
    rw [he]
    show Steps p.tables e below (T1.setTop (mkF m 127 #[.val (.int p1), .val (.int p2), .val (.int p3), .val (.int 5), .val (.int vb), .val (.int va), .val (.ref w_NOT_WORD_BOUNDARY), .val (.int 46267), .unset] [(.int 0)])) _
    refine XS.ifYes X1.here hx rfl (pc0 := 127) (pc' := 134) rfl (hb hby at_127) rfl ((if0 _ _).trans (teq (by decide : (0 : Int32) = (0 : Int32))).1) (by decide) (by decide) ?_
    show Steps p.tables e below (T1.setTop (mkF m 134 #[.val (.int p1), .val (.int p2), .val (.int p3), .val (.int 5), .val (.int vb), .val (.int va), .val (.ref w_NOT_WORD_BOUNDARY), .val (.int 46267), .unset] [])) _
    refine XS.iconst X1.here hx rfl (hb hby at_134) ?_
    show Steps p.tables e below (T1.setTop (mkF m 135 #[.val (.int p1), .val (.int p2), .val (.int p3), .val (.int 5), .val (.int vb), .val (.int va), .val (.ref w_NOT_WORD_BOUNDARY), .val (.int 46267), .unset] [(.int 0)])) _
    refine XS.istore X1.here hx rfl (hb hby at_135) rfl (l' := #[.val (.int p1), .val (.int p2), .val (.int p3), .val (.int 5), .val (.int vb), .val (.int va), .val (.ref w_NOT_WORD_BOUNDARY), .val (.int 46267), .val (.int 0)]) rfl ?_
    show Steps p.tables e below (T1.setTop (mkF m 137 #[.val (.int p1), .val (.int p2), .val (.int p3), .val (.int 5), .val (.int vb), .val (.int va), .val (.ref w_NOT_WORD_BOUNDARY), .val (.int 46267), .val (.int 0)] [])) _
    refine XS.aload X1.here hx rfl (hb hby at_137) rfl rfl ?_
    show Steps p.tables e below (T1.setTop (mkF m 139 #[.val (.int p1), .val (.int p2), .val (.int p3), .val (.int 5), .val (.int vb), .val (.int va), .val (.ref w_NOT_WORD_BOUNDARY), .val (.int 46267), .val (.int 0)] [(.ref w_NOT_WORD_BOUNDARY)])) _
    refine XS.iload X1.here hx rfl (hb hby at_139) rfl ?_
    show Steps p.tables e below (T1.setTop (mkF m 141 #[.val (.int p1), .val (.int p2), .val (.int p3), .val (.int 5), .val (.int vb), .val (.int va), .val (.ref w_NOT_WORD_BOUNDARY), .val (.int 46267), .val (.int 0)] [(.int vb), (.ref w_NOT_WORD_BOUNDARY)])) _
    refine XS.iload X1.here hx rfl (hb hby at_141) rfl ?_
    show Steps p.tables e below (T1.setTop (mkF m 143 #[.val (.int p1), .val (.int p2), .val (.int p3), .val (.int 5), .val (.int vb), .val (.int va), .val (.ref w_NOT_WORD_BOUNDARY), .val (.int 46267), .val (.int 0)] [(.int va), (.int vb), (.ref w_NOT_WORD_BOUNDARY)])) _
    refine st2.trans ?_
    show Steps p.tables e below (T2.setTop (mkF m 146 #[.val (.int p1), .val (.int p2), .val (.int p3), .val (.int 5), .val (.int vb), .val (.int va), .val (.ref w_NOT_WORD_BOUNDARY), .val (.int 46267), .val (.int 0)] [(.int 0)])) _
    refine XS.iload X2.here hx rfl (hb hby at_146) rfl ?_
    show Steps p.tables e below (T2.setTop (mkF m 148 #[.val (.int p1), .val (.int p2), .val (.int p3), .val (.int 5), .val (.int vb), .val (.int va), .val (.ref w_NOT_WORD_BOUNDARY), .val (.int 46267), .val (.int 0)] [(.int 0), (.int 0)])) _
    refine XS.icmpNo X2.here hx rfl (hb hby at_148) rfl (teq (by decide : (0 : Int32) = (0 : Int32))).2 ?_
    show Steps p.tables e below (T2.setTop (mkF m 151 #[.val (.int p1), .val (.int p2), .val (.int p3), .val (.int 5), .val (.int vb), .val (.int va), .val (.ref w_NOT_WORD_BOUNDARY), .val (.int 46267), .val (.int 0)] [])) _
    refine XS.iconst X2.here hx rfl (hb hby at_151) ?_
    show Steps p.tables e below (T2.setTop (mkF m 152 #[.val (.int p1), .val (.int p2), .val (.int p3), .val (.int 5), .val (.int vb), .val (.int va), .val (.ref w_NOT_WORD_BOUNDARY), .val (.int 46267), .val (.int 0)] [(.int 1)])) _
    refine XS.goto X2.here hx rfl (pc0 := 152) (pc' := 156) rfl (hb hby at_152) (by decide) (by decide) ?_
    show Steps p.tables e below (T2.setTop (mkF m 156 #[.val (.int p1), .val (.int p2), .val (.int p3), .val (.int 5), .val (.int vb), .val (.int va), .val (.ref w_NOT_WORD_BOUNDARY), .val (.int 46267), .val (.int 0)] [(.int 1)])) _
    exact retN X2 hx (t := .boolean) Bd.returns (by simp) (hb hby at_156) hr
  · show Q0_k5ft Z p1 p2 p3 vb va w_NOT_WORD_BOUNDARY h0 n0 _ T2.heap _
    rw [e2]
    exact ⟨rfl, N2, rfl⟩
def Q1_w_NOT_WORD_BOUNDARY_vb_va_rtf (Z : State) (w_NOT_WORD_BOUNDARY : Addr) (vb : Int32) (va : Int32) (h0 : Heap) (n0 : Nat) (v : Option Value) (h : Heap) (L : List Loc) : Prop := v = some (.int 0) ∧ Fr n0 L ∧ h = h0
set_option maxRecDepth 65536 in
set_option maxHeartbeats 40000000 in
theorem rm1_w_NOT_WORD_BOUNDARY_vb_va_rtf (l : Launch) (Z : State) (a0 : Array Value) (hw : ∀ d ∈ tables_1, d.before a0 Z = true) (ws : List Jvm.Cond) (w_NOT_WORD_BOUNDARY : Addr) (vb : Int32) (va : Int32) (h0 : Heap) (n0 : Nat) (Z0 : n0 ≤ h0.size) (F_ordinal_w_NOT_WORD_BOUNDARY : Fld Z h0 w_NOT_WORD_BOUNDARY "java/lang/Enum" "ordinal" "I" (.int 5)) (E_w_NOT_WORD_BOUNDARY : Exa Z h0 w_NOT_WORD_BOUNDARY "com/example/termwell/termwell/core/text/RegexNode$Anchor") (hc145 : ¬ (vb = (2 : Int32))) (hc155 : va = (2 : Int32)) :
    MetFree l (⟨"com/example/termwell/termwell/core/text/RegexNode$Anchor", "holds", "(II)Z"⟩ : MethodName) (head1 (Jvm.Cond.code (⟨"com/example/termwell/termwell/core/text/RegexNode$Anchor", "holds", "(II)Z"⟩ : MethodName) prog_28_method_5_code 3 (some .boolean) :: ws) ({ frames := 1, cells := 0, slots := 0, locals := 12 } : Room)) (fun a U => a = #[(.ref w_NOT_WORD_BOUNDARY), (.int vb), (.int va)] ∧ Z.Warmed39 U.vm ∧ U.heap = h0) (fun _ _ _ _ _ => True) (fun _ U o U' => ∃ v L, o = .returned v ∧ Q1_w_NOT_WORD_BOUNDARY_vb_va_rtf Z w_NOT_WORD_BOUNDARY vb va h0 n0 v U'.heap L ∧ FrameEnd U o U' L ({ frames := 1, cells := 0, slots := 0, locals := 12 } : Room).cells ({ frames := 1, cells := 0, slots := 0, locals := 12 } : Room).slots) := by
  refine MetFree.of_bodySF (plainFor_of_name pn_1) hisR ?_
  intro p e s m args below meth c s₁ Bd hml0 hP hK
  obtain ⟨rfl, hZ, hh⟩ := hP
  have hx := Bd.exec
  have hby := Bd.bytes
  have hml : c.maxLocals = 3 := hml0
  have hown : s.vm.findClass "com/example/termwell/termwell/core/text/RegexNode$Anchor" = some m.cls := findClass_of_methodNamed Bd.named
  have hnm := (name_of_methodNamed Bd.named Bd.method).1
  have X0 : Stand p l e ({ frames := 1, cells := 0, slots := 0, locals := 12 } : Room) s m #[(.ref w_NOT_WORD_BOUNDARY), (.int vb), (.int va)] below meth c s₁ [] 0 0 := Stand.of_body Bd
  have e0 : s₁.heap = h0 := by rw [← hh, Bd.state]; rfl
  have N0 := Fr.nil n0
  have pre0 : ∀ t, Steps p.tables e below (s₁.setTop (mkF m 0 #[.val (.ref w_NOT_WORD_BOUNDARY), .val (.int vb), .val (.int va)] [])) t → Steps p.tables e below (s₁.setTop (entryFrame m #[(.ref w_NOT_WORD_BOUNDARY), (.int vb), (.int va)] 3)) t := fun t k => castTop (by first | (simp [entryFrame, mkF, argsToLocals, Value.category]; done) | rfl) k
  obtain ⟨cq1, kq1, q1a, q1b, q1c⟩ := isOf hZ e0 E_w_NOT_WORD_BOUNDARY
  obtain ⟨_, _, ⟨T1, L1, k1, n1⟩, -, X1, ⟨Lc1, hQ1, l1, y1, z1⟩, st1⟩ := X0.virtualBackUp hx (x := (⟨"com/example/termwell/termwell/core/text/RegexNode$Anchor", "ordinal", "()I"⟩ : MethodName)) (y := (⟨"java/lang/Enum", "ordinal", "()I"⟩ : MethodName)) (owner := "java/lang/Enum") hown (mvT hZ (hw _ (List.mem_of_getElem? (i := 9) rfl))) (mvT hZ (hw _ (List.mem_of_getElem? (i := 10) rfl))) (mvT hZ (hw _ (List.mem_of_getElem? (i := 11) rfl))) (by decide) (mvT hZ (hw _ (List.mem_of_getElem? (i := 13) rfl))) (mvT hZ (hw _ (List.mem_of_getElem? (i := 12) rfl))) (backOf (W := 0) (rm2_w_NOT_WORD_BOUNDARY l Z a0 hw [] w_NOT_WORD_BOUNDARY h0 n0 Z0 F_ordinal_w_NOT_WORD_BOUNDARY) hZ (hw _ (List.mem_of_getElem? (i := 15) rfl)) (hw _ (List.mem_of_getElem? (i := 14) rfl)) (by decide) (by decide)) q1a q1c (g := (mkF m 1 #[.val (.ref w_NOT_WORD_BOUNDARY), .val (.int vb), .val (.int va)] [(.ref w_NOT_WORD_BOUNDARY)])) rfl (by rw [hml]; rfl) (Steps.refl _) (argsL := []) (rest := []) (lenOf pd___I rfl) rfl (by show 2 * 0 + _ ≤ _; exact Nat.le_of_eq rfl) (hb hby d1_1) (fun _ _ => ⟨rfl, e0, (by decide : 0 + 0 ≤ _), (by decide : 0 + 0 ≤ _)⟩)
  dsimp only [Pt.U, Pt.locs, Pt.cells, Pt.slots] at X1 l1 y1 z1 st1 hQ1
  subst l1 y1 z1
  obtain ⟨rfl, N1q, e1⟩ := hQ1
  have N1 := Fr.app N0 N1q
  obtain ⟨fs, hr, hrun, hended, hW, hsame⟩ := X1.leave (v := some (.int 0)) (fun h => by rw [Bd.returns] at h; cases h)
  refine ⟨_, _, pre0 _ ?_, hrun, hended, _, _, rfl, ?_, ⟨_, rfl⟩, hW, hsame.mono (by decide) (by decide)⟩
  · show Steps p.tables e below (s₁.setTop (mkF m 0 #[.val (.ref w_NOT_WORD_BOUNDARY), .val (.int vb), .val (.int va)] [])) _
    refine XS.aloadN X0.here hx rfl (hb hby d1_0) rfl rfl ?_
    show Steps p.tables e below (s₁.setTop (mkF m 1 #[.val (.ref w_NOT_WORD_BOUNDARY), .val (.int vb), .val (.int va)] [(.ref w_NOT_WORD_BOUNDARY)])) _
    refine st1.trans ?_
    show Steps p.tables e below (T1.setTop (mkF m 4 #[.val (.ref w_NOT_WORD_BOUNDARY), .val (.int vb), .val (.int va)] [(.int 5)])) _
    refine XS.tswIn X1.here hx rfl (pc0 := 4) (pc' := 143) rfl (hb hby d1_4) rfl (by decide) (o := 139) (by decide) (by decide) (by decide) ?_
    show Steps p.tables e below (T1.setTop (mkF m 143 #[.val (.ref w_NOT_WORD_BOUNDARY), .val (.int vb), .val (.int va)] [])) _
    refine XS.iloadN X1.here hx rfl (hb hby d1_143) rfl ?_
    show Steps p.tables e below (T1.setTop (mkF m 144 #[.val (.ref w_NOT_WORD_BOUNDARY), .val (.int vb), .val (.int va)] [(.int vb)])) _
    refine XS.iconst X1.here hx rfl (hb hby d1_144) ?_
    show Steps p.tables e below (T1.setTop (mkF m 145 #[.val (.ref w_NOT_WORD_BOUNDARY), .val (.int vb), .val (.int va)] [(.int 2), (.int vb)])) _
    refine XS.icmpYes X1.here hx rfl (pc0 := 145) (pc' := 152) rfl (hb hby d1_145) rfl (feq hc145).2 (by decide) (by decide) ?_
    show Steps p.tables e below (T1.setTop (mkF m 152 #[.val (.ref w_NOT_WORD_BOUNDARY), .val (.int vb), .val (.int va)] [])) _
    refine XS.iconst X1.here hx rfl (hb hby d1_152) ?_
    show Steps p.tables e below (T1.setTop (mkF m 153 #[.val (.ref w_NOT_WORD_BOUNDARY), .val (.int vb), .val (.int va)] [(.int 0)])) _
    refine XS.iloadN X1.here hx rfl (hb hby d1_153) rfl ?_
    show Steps p.tables e below (T1.setTop (mkF m 154 #[.val (.ref w_NOT_WORD_BOUNDARY), .val (.int vb), .val (.int va)] [(.int va), (.int 0)])) _
    refine XS.iconst X1.here hx rfl (hb hby d1_154) ?_
    show Steps p.tables e below (T1.setTop (mkF m 155 #[.val (.ref w_NOT_WORD_BOUNDARY), .val (.int vb), .val (.int va)] [(.int 2), (.int va), (.int 0)])) _
    refine XS.icmpNo X1.here hx rfl (hb hby d1_155) rfl (teq hc155).2 ?_
    show Steps p.tables e below (T1.setTop (mkF m 158 #[.val (.ref w_NOT_WORD_BOUNDARY), .val (.int vb), .val (.int va)] [(.int 0)])) _
    refine XS.iconst X1.here hx rfl (hb hby d1_158) ?_
    show Steps p.tables e below (T1.setTop (mkF m 159 #[.val (.ref w_NOT_WORD_BOUNDARY), .val (.int vb), .val (.int va)] [(.int 1), (.int 0)])) _
    refine XS.goto X1.here hx rfl (pc0 := 159) (pc' := 163) rfl (hb hby d1_159) (by decide) (by decide) ?_
    show Steps p.tables e below (T1.setTop (mkF m 163 #[.val (.ref w_NOT_WORD_BOUNDARY), .val (.int vb), .val (.int va)] [(.int 1), (.int 0)])) _
    refine XS.icmpYes X1.here hx rfl (pc0 := 163) (pc' := 170) rfl (hb hby d1_163) rfl (feq (by decide : ¬ ((0 : Int32) = (1 : Int32)))).2 (by decide) (by decide) ?_
    show Steps p.tables e below (T1.setTop (mkF m 170 #[.val (.ref w_NOT_WORD_BOUNDARY), .val (.int vb), .val (.int va)] [])) _
    refine XS.iconst X1.here hx rfl (hb hby d1_170) ?_
    show Steps p.tables e below (T1.setTop (mkF m 171 #[.val (.ref w_NOT_WORD_BOUNDARY), .val (.int vb), .val (.int va)] [(.int 0)])) _
    exact retN X1 hx (t := .boolean) Bd.returns (by simp) (hb hby d1_171) hr
  · show Q1_w_NOT_WORD_BOUNDARY_vb_va_rtf Z w_NOT_WORD_BOUNDARY vb va h0 n0 _ T1.heap _
    rw [e1]
    exact ⟨rfl, N1, rfl⟩
def Q0_k5tf (Z : State) (p1 : Int32) (p2 : Int32) (p3 : Int32) (vb : Int32) (va : Int32) (w_NOT_WORD_BOUNDARY : Addr) (h0 : Heap) (n0 : Nat) (v : Option Value) (h : Heap) (L : List Loc) : Prop := v = some (.int 1) ∧ Fr n0 L ∧ h = h0
set_option maxRecDepth 65536 in
set_option maxHeartbeats 40000000 in
theorem rm0_k5tf (l : Launch) (Z : State) (a0 : Array Value) (hw : ∀ d ∈ tables_1, d.before a0 Z = true) (ws : List Jvm.Cond) (p1 : Int32) (p2 : Int32) (p3 : Int32) (vb : Int32) (va : Int32) (w_NOT_WORD_BOUNDARY : Addr) (h0 : Heap) (n0 : Nat) (Z0 : n0 ≤ h0.size) (hk : ((p1 &&& (2147483647 : Int32)) % (6 : Int32)) = (5 : Int32)) (hvb : (p2 &&& (3 : Int32)) = vb) (hva : (p3 &&& (3 : Int32)) = va) (S_NOT_WORD_BOUNDARY : Sta Z h0 "com/example/termwell/termwell/core/text/RegexNode$Anchor" "NOT_WORD_BOUNDARY" "Lcom/example/termwell/termwell/core/text/RegexNode$Anchor;" (.ref w_NOT_WORD_BOUNDARY)) (he : ((((46267 : Int32).toUInt32 >>> (((vb * (4 : Int32)) + va) &&& 31).toUInt32).toInt32) &&& (1 : Int32)) = (0 : Int32)) (F_ordinal_w_NOT_WORD_BOUNDARY : Fld Z h0 w_NOT_WORD_BOUNDARY "java/lang/Enum" "ordinal" "I" (.int 5)) (E_w_NOT_WORD_BOUNDARY : Exa Z h0 w_NOT_WORD_BOUNDARY "com/example/termwell/termwell/core/text/RegexNode$Anchor") (hc145 : ¬ (vb = (2 : Int32))) (hc155 : va = (2 : Int32)) :
    MetFree l x (head1 (Jvm.Cond.code x code maxLocals ret :: ws) room_1) (fun a U => a = #[(.int p1), (.int p2), (.int p3)] ∧ Z.Warmed39 U.vm ∧ U.heap = h0) (fun _ _ _ _ _ => True) (fun _ U o U' => ∃ v L, o = .returned v ∧ Q0_k5tf Z p1 p2 p3 vb va w_NOT_WORD_BOUNDARY h0 n0 v U'.heap L ∧ FrameEnd U o U' L room_1.cells room_1.slots) := by
  refine MetFree.of_bodySF (plainFor_of_name pn_0) hisR ?_
  intro p e s m args below meth c s₁ Bd hml0 hP hK
  obtain ⟨rfl, hZ, hh⟩ := hP
  have hx := Bd.exec
  have hby := Bd.bytes
  have hml : c.maxLocals = 9 := hml0
  have hown : s.vm.findClass "com/example/termwell/termwell/core/text/AnchorHoldsPinLaw" = some m.cls := findClass_of_methodNamed Bd.named
  have hnm := (name_of_methodNamed Bd.named Bd.method).1
  have X0 : Stand p l e room_1 s m #[(.int p1), (.int p2), (.int p3)] below meth c s₁ [] 0 0 := Stand.of_body Bd
  have e0 : s₁.heap = h0 := by rw [← hh, Bd.state]; rfl
  have N0 := Fr.nil n0
  have pre0 : ∀ t, Steps p.tables e below (s₁.setTop (mkF m 0 #[.val (.int p1), .val (.int p2), .val (.int p3), .unset, .unset, .unset, .unset, .unset, .unset] [])) t → Steps p.tables e below (s₁.setTop (entryFrame m #[(.int p1), (.int p2), (.int p3)] maxLocals)) t := fun t k => castTop (by first | (simp [entryFrame, mkF, argsToLocals, Value.category, maxLocals]; done) | rfl) k
  obtain ⟨T1, X1, e1, st1⟩ := getS2 X0 hx hZ hown (host := "") (Or.inl (hw _ (List.mem_of_getElem? (i := 22) rfl))) Via.refl e0 S_NOT_WORD_BOUNDARY (g := (mkF m 106 #[.val (.int p1), .val (.int p2), .val (.int p3), .val (.int 5), .val (.int vb), .val (.int va), .unset, .unset, .unset] [])) rfl (hb hby at_106)
  obtain ⟨cq2, kq2, q2a, q2b, q2c⟩ := isOf hZ e1 E_w_NOT_WORD_BOUNDARY
  obtain ⟨_, _, ⟨T2, L2, k2, n2⟩, -, X2, ⟨Lc2, hQ2, l2, y2, z2⟩, st2⟩ := X1.virtualBack hx (y := (⟨"com/example/termwell/termwell/core/text/RegexNode$Anchor", "holds", "(II)Z"⟩ : MethodName)) (z := (⟨"com/example/termwell/termwell/core/text/RegexNode$Anchor", "holds", "(II)Z"⟩ : MethodName)) hown (mvT hZ (hw _ (List.mem_of_getElem? (i := 4) rfl))) (mvT hZ (hw _ (List.mem_of_getElem? (i := 5) rfl))) (notFace_of_selects (args := #[]) (mvT hZ (hw _ (List.mem_of_getElem? (i := 7) rfl)))) (mvT hZ (hw _ (List.mem_of_getElem? (i := 7) rfl))) (mvT hZ (hw _ (List.mem_of_getElem? (i := 6) rfl))) (by decide) (backOf (W := 0) (rm1_w_NOT_WORD_BOUNDARY_vb_va_rtf l Z a0 hw [] w_NOT_WORD_BOUNDARY vb va h0 n0 Z0 F_ordinal_w_NOT_WORD_BOUNDARY E_w_NOT_WORD_BOUNDARY hc145 hc155) hZ (hw _ (List.mem_of_getElem? (i := 8) rfl)) (hw _ (List.mem_of_getElem? (i := 2) rfl)) (by decide) (by decide)) q2a q2c (g := (mkF m 143 #[.val (.int p1), .val (.int p2), .val (.int p3), .val (.int 5), .val (.int vb), .val (.int va), .val (.ref w_NOT_WORD_BOUNDARY), .val (.int 46267), .val (.int 0)] [(.int va), (.int vb), (.ref w_NOT_WORD_BOUNDARY)])) rfl (by rw [hml]; rfl) (Steps.refl _) (argsL := [(.int vb), (.int va)]) (rest := []) (lenOf pd__II_Z rfl) rfl (by show 2 * 0 + _ ≤ _; exact Nat.le_of_eq rfl) (hb hby at_143) (fun _ _ => ⟨rfl, e1, (by decide : 0 + 0 ≤ _), (by decide : 0 + 0 ≤ _)⟩)
  dsimp only [Pt.U, Pt.locs, Pt.cells, Pt.slots] at X2 l2 y2 z2 st2 hQ2
  subst l2 y2 z2
  obtain ⟨rfl, N2q, e2⟩ := hQ2
  have N2 := Fr.app N0 N2q
  obtain ⟨fs, hr, hrun, hended, hW, hsame⟩ := X2.leave (v := some (.int 1)) (fun h => by rw [Bd.returns] at h; cases h)
  refine ⟨_, _, pre0 _ ?_, hrun, hended, _, _, rfl, ?_, ⟨_, rfl⟩, hW, hsame.mono (by decide) (by decide)⟩
  · show Steps p.tables e below (s₁.setTop (mkF m 0 #[.val (.int p1), .val (.int p2), .val (.int p3), .unset, .unset, .unset, .unset, .unset, .unset] [])) _
    refine XS.iloadN X0.here hx rfl (hb hby at_0) rfl ?_
    show Steps p.tables e below (s₁.setTop (mkF m 1 #[.val (.int p1), .val (.int p2), .val (.int p3), .unset, .unset, .unset, .unset, .unset, .unset] [(.int p1)])) _
    refine X0.ldcInt hx hown (mvT hZ (hw _ (List.mem_of_getElem? (i := 0) rfl))) (g := (mkF m 1 #[.val (.int p1), .val (.int p2), .val (.int p3), .unset, .unset, .unset, .unset, .unset, .unset] [(.int p1)])) rfl (hb hby at_1) _ ?_
    show Steps p.tables e below (s₁.setTop (mkF m 3 #[.val (.int p1), .val (.int p2), .val (.int p3), .unset, .unset, .unset, .unset, .unset, .unset] [(.int 2147483647), (.int p1)])) _
    refine XS.iand X0.here hx rfl (hb hby at_3) rfl ?_
    show Steps p.tables e below (s₁.setTop (mkF m 4 #[.val (.int p1), .val (.int p2), .val (.int p3), .unset, .unset, .unset, .unset, .unset, .unset] [(.int (p1 &&& (2147483647 : Int32)))])) _
    refine XS.bipush X0.here hx rfl (hb hby at_4) ?_
    show Steps p.tables e below (s₁.setTop (mkF m 6 #[.val (.int p1), .val (.int p2), .val (.int p3), .unset, .unset, .unset, .unset, .unset, .unset] [(.int 6), (.int (p1 &&& (2147483647 : Int32)))])) _
    refine iremM X0 hx rfl (hb hby at_6) rfl (by decide) ?_
    show Steps p.tables e below (s₁.setTop (mkF m 7 #[.val (.int p1), .val (.int p2), .val (.int p3), .unset, .unset, .unset, .unset, .unset, .unset] [(.int ((p1 &&& (2147483647 : Int32)) % (6 : Int32)))])) _
    rw [hk]
    show Steps p.tables e below (s₁.setTop (mkF m 7 #[.val (.int p1), .val (.int p2), .val (.int p3), .unset, .unset, .unset, .unset, .unset, .unset] [(.int 5)])) _
    refine XS.istoreN X0.here hx rfl (hb hby at_7) rfl (l' := #[.val (.int p1), .val (.int p2), .val (.int p3), .val (.int 5), .unset, .unset, .unset, .unset, .unset]) rfl ?_
    show Steps p.tables e below (s₁.setTop (mkF m 8 #[.val (.int p1), .val (.int p2), .val (.int p3), .val (.int 5), .unset, .unset, .unset, .unset, .unset] [])) _
    refine XS.iloadN X0.here hx rfl (hb hby at_8) rfl ?_
    show Steps p.tables e below (s₁.setTop (mkF m 9 #[.val (.int p1), .val (.int p2), .val (.int p3), .val (.int 5), .unset, .unset, .unset, .unset, .unset] [(.int p2)])) _
    refine XS.iconst X0.here hx rfl (hb hby at_9) ?_
    show Steps p.tables e below (s₁.setTop (mkF m 10 #[.val (.int p1), .val (.int p2), .val (.int p3), .val (.int 5), .unset, .unset, .unset, .unset, .unset] [(.int 3), (.int p2)])) _
    refine XS.iand X0.here hx rfl (hb hby at_10) rfl ?_
    show Steps p.tables e below (s₁.setTop (mkF m 11 #[.val (.int p1), .val (.int p2), .val (.int p3), .val (.int 5), .unset, .unset, .unset, .unset, .unset] [(.int (p2 &&& (3 : Int32)))])) _
    rw [hvb]
    show Steps p.tables e below (s₁.setTop (mkF m 11 #[.val (.int p1), .val (.int p2), .val (.int p3), .val (.int 5), .unset, .unset, .unset, .unset, .unset] [(.int vb)])) _
    refine XS.istore X0.here hx rfl (hb hby at_11) rfl (l' := #[.val (.int p1), .val (.int p2), .val (.int p3), .val (.int 5), .val (.int vb), .unset, .unset, .unset, .unset]) rfl ?_
    show Steps p.tables e below (s₁.setTop (mkF m 13 #[.val (.int p1), .val (.int p2), .val (.int p3), .val (.int 5), .val (.int vb), .unset, .unset, .unset, .unset] [])) _
    refine XS.iloadN X0.here hx rfl (hb hby at_13) rfl ?_
    show Steps p.tables e below (s₁.setTop (mkF m 14 #[.val (.int p1), .val (.int p2), .val (.int p3), .val (.int 5), .val (.int vb), .unset, .unset, .unset, .unset] [(.int p3)])) _
    refine XS.iconst X0.here hx rfl (hb hby at_14) ?_
    show Steps p.tables e below (s₁.setTop (mkF m 15 #[.val (.int p1), .val (.int p2), .val (.int p3), .val (.int 5), .val (.int vb), .unset, .unset, .unset, .unset] [(.int 3), (.int p3)])) _
    refine XS.iand X0.here hx rfl (hb hby at_15) rfl ?_
    show Steps p.tables e below (s₁.setTop (mkF m 16 #[.val (.int p1), .val (.int p2), .val (.int p3), .val (.int 5), .val (.int vb), .unset, .unset, .unset, .unset] [(.int (p3 &&& (3 : Int32)))])) _
    rw [hva]
    show Steps p.tables e below (s₁.setTop (mkF m 16 #[.val (.int p1), .val (.int p2), .val (.int p3), .val (.int 5), .val (.int vb), .unset, .unset, .unset, .unset] [(.int va)])) _
    refine XS.istore X0.here hx rfl (hb hby at_16) rfl (l' := #[.val (.int p1), .val (.int p2), .val (.int p3), .val (.int 5), .val (.int vb), .val (.int va), .unset, .unset, .unset]) rfl ?_
    show Steps p.tables e below (s₁.setTop (mkF m 18 #[.val (.int p1), .val (.int p2), .val (.int p3), .val (.int 5), .val (.int vb), .val (.int va), .unset, .unset, .unset] [])) _
    refine XS.iloadN X0.here hx rfl (hb hby at_18) rfl ?_
    show Steps p.tables e below (s₁.setTop (mkF m 19 #[.val (.int p1), .val (.int p2), .val (.int p3), .val (.int 5), .val (.int vb), .val (.int va), .unset, .unset, .unset] [(.int 5)])) _
    refine XS.ifYes X0.here hx rfl (pc0 := 19) (pc' := 34) rfl (hb hby at_19) rfl ((if0 _ _).trans (feq (by decide : ¬ ((5 : Int32) = (0 : Int32)))).2) (by decide) (by decide) ?_
    show Steps p.tables e below (s₁.setTop (mkF m 34 #[.val (.int p1), .val (.int p2), .val (.int p3), .val (.int 5), .val (.int vb), .val (.int va), .unset, .unset, .unset] [])) _
    refine XS.iloadN X0.here hx rfl (hb hby at_34) rfl ?_
    show Steps p.tables e below (s₁.setTop (mkF m 35 #[.val (.int p1), .val (.int p2), .val (.int p3), .val (.int 5), .val (.int vb), .val (.int va), .unset, .unset, .unset] [(.int 5)])) _
    refine XS.iconst X0.here hx rfl (hb hby at_35) ?_
    show Steps p.tables e below (s₁.setTop (mkF m 36 #[.val (.int p1), .val (.int p2), .val (.int p3), .val (.int 5), .val (.int vb), .val (.int va), .unset, .unset, .unset] [(.int 1), (.int 5)])) _
    refine XS.icmpYes X0.here hx rfl (pc0 := 36) (pc' := 52) rfl (hb hby at_36) rfl (feq (by decide : ¬ ((5 : Int32) = (1 : Int32)))).2 (by decide) (by decide) ?_
    show Steps p.tables e below (s₁.setTop (mkF m 52 #[.val (.int p1), .val (.int p2), .val (.int p3), .val (.int 5), .val (.int vb), .val (.int va), .unset, .unset, .unset] [])) _
    refine XS.iloadN X0.here hx rfl (hb hby at_52) rfl ?_
    show Steps p.tables e below (s₁.setTop (mkF m 53 #[.val (.int p1), .val (.int p2), .val (.int p3), .val (.int 5), .val (.int vb), .val (.int va), .unset, .unset, .unset] [(.int 5)])) _
    refine XS.iconst X0.here hx rfl (hb hby at_53) ?_
    show Steps p.tables e below (s₁.setTop (mkF m 54 #[.val (.int p1), .val (.int p2), .val (.int p3), .val (.int 5), .val (.int vb), .val (.int va), .unset, .unset, .unset] [(.int 2), (.int 5)])) _
    refine XS.icmpYes X0.here hx rfl (pc0 := 54) (pc' := 70) rfl (hb hby at_54) rfl (feq (by decide : ¬ ((5 : Int32) = (2 : Int32)))).2 (by decide) (by decide) ?_
    show Steps p.tables e below (s₁.setTop (mkF m 70 #[.val (.int p1), .val (.int p2), .val (.int p3), .val (.int 5), .val (.int vb), .val (.int va), .unset, .unset, .unset] [])) _
    refine XS.iloadN X0.here hx rfl (hb hby at_70) rfl ?_
    show Steps p.tables e below (s₁.setTop (mkF m 71 #[.val (.int p1), .val (.int p2), .val (.int p3), .val (.int 5), .val (.int vb), .val (.int va), .unset, .unset, .unset] [(.int 5)])) _
    refine XS.iconst X0.here hx rfl (hb hby at_71) ?_
    show Steps p.tables e below (s₁.setTop (mkF m 72 #[.val (.int p1), .val (.int p2), .val (.int p3), .val (.int 5), .val (.int vb), .val (.int va), .unset, .unset, .unset] [(.int 3), (.int 5)])) _
    refine XS.icmpYes X0.here hx rfl (pc0 := 72) (pc' := 88) rfl (hb hby at_72) rfl (feq (by decide : ¬ ((5 : Int32) = (3 : Int32)))).2 (by decide) (by decide) ?_
    show Steps p.tables e below (s₁.setTop (mkF m 88 #[.val (.int p1), .val (.int p2), .val (.int p3), .val (.int 5), .val (.int vb), .val (.int va), .unset, .unset, .unset] [])) _
    refine XS.iloadN X0.here hx rfl (hb hby at_88) rfl ?_
    show Steps p.tables e below (s₁.setTop (mkF m 89 #[.val (.int p1), .val (.int p2), .val (.int p3), .val (.int 5), .val (.int vb), .val (.int va), .unset, .unset, .unset] [(.int 5)])) _
    refine XS.iconst X0.here hx rfl (hb hby at_89) ?_
    show Steps p.tables e below (s₁.setTop (mkF m 90 #[.val (.int p1), .val (.int p2), .val (.int p3), .val (.int 5), .val (.int vb), .val (.int va), .unset, .unset, .unset] [(.int 4), (.int 5)])) _
    refine XS.icmpYes X0.here hx rfl (pc0 := 90) (pc' := 106) rfl (hb hby at_90) rfl (feq (by decide : ¬ ((5 : Int32) = (4 : Int32)))).2 (by decide) (by decide) ?_
    show Steps p.tables e below (s₁.setTop (mkF m 106 #[.val (.int p1), .val (.int p2), .val (.int p3), .val (.int 5), .val (.int vb), .val (.int va), .unset, .unset, .unset] [])) _
    refine st1 _ ?_
    show Steps p.tables e below (T1.setTop (mkF m 109 #[.val (.int p1), .val (.int p2), .val (.int p3), .val (.int 5), .val (.int vb), .val (.int va), .unset, .unset, .unset] [(.ref w_NOT_WORD_BOUNDARY)])) _
    refine XS.astore X1.here hx rfl (hb hby at_109) rfl rfl (l' := #[.val (.int p1), .val (.int p2), .val (.int p3), .val (.int 5), .val (.int vb), .val (.int va), .val (.ref w_NOT_WORD_BOUNDARY), .unset, .unset]) rfl ?_
    show Steps p.tables e below (T1.setTop (mkF m 111 #[.val (.int p1), .val (.int p2), .val (.int p3), .val (.int 5), .val (.int vb), .val (.int va), .val (.ref w_NOT_WORD_BOUNDARY), .unset, .unset] [])) _
    refine X1.ldcInt hx hown (mvT hZ (hw _ (List.mem_of_getElem? (i := 24) rfl))) (g := (mkF m 111 #[.val (.int p1), .val (.int p2), .val (.int p3), .val (.int 5), .val (.int vb), .val (.int va), .val (.ref w_NOT_WORD_BOUNDARY), .unset, .unset] [])) rfl (hb hby at_111) _ ?_
    show Steps p.tables e below (T1.setTop (mkF m 113 #[.val (.int p1), .val (.int p2), .val (.int p3), .val (.int 5), .val (.int vb), .val (.int va), .val (.ref w_NOT_WORD_BOUNDARY), .unset, .unset] [(.int 46267)])) _
    refine XS.istore X1.here hx rfl (hb hby at_113) rfl (l' := #[.val (.int p1), .val (.int p2), .val (.int p3), .val (.int 5), .val (.int vb), .val (.int va), .val (.ref w_NOT_WORD_BOUNDARY), .val (.int 46267), .unset]) rfl ?_
    show Steps p.tables e below (T1.setTop (mkF m 115 #[.val (.int p1), .val (.int p2), .val (.int p3), .val (.int 5), .val (.int vb), .val (.int va), .val (.ref w_NOT_WORD_BOUNDARY), .val (.int 46267), .unset] [])) _
    refine XS.iload X1.here hx rfl (hb hby at_115) rfl ?_
    show Steps p.tables e below (T1.setTop (mkF m 117 #[.val (.int p1), .val (.int p2), .val (.int p3), .val (.int 5), .val (.int vb), .val (.int va), .val (.ref w_NOT_WORD_BOUNDARY), .val (.int 46267), .unset] [(.int 46267)])) _
    refine XS.iload X1.here hx rfl (hb hby at_117) rfl ?_
    show Steps p.tables e below (T1.setTop (mkF m 119 #[.val (.int p1), .val (.int p2), .val (.int p3), .val (.int 5), .val (.int vb), .val (.int va), .val (.ref w_NOT_WORD_BOUNDARY), .val (.int 46267), .unset] [(.int vb), (.int 46267)])) _
    refine XS.iconst X1.here hx rfl (hb hby at_119) ?_
    show Steps p.tables e below (T1.setTop (mkF m 120 #[.val (.int p1), .val (.int p2), .val (.int p3), .val (.int 5), .val (.int vb), .val (.int va), .val (.ref w_NOT_WORD_BOUNDARY), .val (.int 46267), .unset] [(.int 4), (.int vb), (.int 46267)])) _
    refine XS.imul X1.here hx rfl (hb hby at_120) rfl ?_
    show Steps p.tables e below (T1.setTop (mkF m 121 #[.val (.int p1), .val (.int p2), .val (.int p3), .val (.int 5), .val (.int vb), .val (.int va), .val (.ref w_NOT_WORD_BOUNDARY), .val (.int 46267), .unset] [(.int (vb * (4 : Int32))), (.int 46267)])) _
    refine XS.iload X1.here hx rfl (hb hby at_121) rfl ?_
    show Steps p.tables e below (T1.setTop (mkF m 123 #[.val (.int p1), .val (.int p2), .val (.int p3), .val (.int 5), .val (.int vb), .val (.int va), .val (.ref w_NOT_WORD_BOUNDARY), .val (.int 46267), .unset] [(.int va), (.int (vb * (4 : Int32))), (.int 46267)])) _
    refine XS.iadd X1.here hx rfl (hb hby at_123) rfl ?_
    show Steps p.tables e below (T1.setTop (mkF m 124 #[.val (.int p1), .val (.int p2), .val (.int p3), .val (.int 5), .val (.int vb), .val (.int va), .val (.ref w_NOT_WORD_BOUNDARY), .val (.int 46267), .unset] [(.int ((vb * (4 : Int32)) + va)), (.int 46267)])) _
    refine XS.iushr X1.here hx rfl (hb hby at_124) rfl ?_
    show Steps p.tables e below (T1.setTop (mkF m 125 #[.val (.int p1), .val (.int p2), .val (.int p3), .val (.int 5), .val (.int vb), .val (.int va), .val (.ref w_NOT_WORD_BOUNDARY), .val (.int 46267), .unset] [(.int (((46267 : Int32).toUInt32 >>> (((vb * (4 : Int32)) + va) &&& 31).toUInt32).toInt32))])) _
    refine XS.iconst X1.here hx rfl (hb hby at_125) ?_
    show Steps p.tables e below (T1.setTop (mkF m 126 #[.val (.int p1), .val (.int p2), .val (.int p3), .val (.int 5), .val (.int vb), .val (.int va), .val (.ref w_NOT_WORD_BOUNDARY), .val (.int 46267), .unset] [(.int 1), (.int (((46267 : Int32).toUInt32 >>> (((vb * (4 : Int32)) + va) &&& 31).toUInt32).toInt32))])) _
    refine XS.iand X1.here hx rfl (hb hby at_126) rfl ?_
    show Steps p.tables e below (T1.setTop (mkF m 127 #[.val (.int p1), .val (.int p2), .val (.int p3), .val (.int 5), .val (.int vb), .val (.int va), .val (.ref w_NOT_WORD_BOUNDARY), .val (.int 46267), .unset] [(.int ((((46267 : Int32).toUInt32 >>> (((vb * (4 : Int32)) + va) &&& 31).toUInt32).toInt32) &&& (1 : Int32)))])) _
    rw [he]
    show Steps p.tables e below (T1.setTop (mkF m 127 #[.val (.int p1), .val (.int p2), .val (.int p3), .val (.int 5), .val (.int vb), .val (.int va), .val (.ref w_NOT_WORD_BOUNDARY), .val (.int 46267), .unset] [(.int 0)])) _
    refine XS.ifYes X1.here hx rfl (pc0 := 127) (pc' := 134) rfl (hb hby at_127) rfl ((if0 _ _).trans (teq (by decide : (0 : Int32) = (0 : Int32))).1) (by decide) (by decide) ?_
    show Steps p.tables e below (T1.setTop (mkF m 134 #[.val (.int p1), .val (.int p2), .val (.int p3), .val (.int 5), .val (.int vb), .val (.int va), .val (.ref w_NOT_WORD_BOUNDARY), .val (.int 46267), .unset] [])) _
    refine XS.iconst X1.here hx rfl (hb hby at_134) ?_
    show Steps p.tables e below (T1.setTop (mkF m 135 #[.val (.int p1), .val (.int p2), .val (.int p3), .val (.int 5), .val (.int vb), .val (.int va), .val (.ref w_NOT_WORD_BOUNDARY), .val (.int 46267), .unset] [(.int 0)])) _
    refine XS.istore X1.here hx rfl (hb hby at_135) rfl (l' := #[.val (.int p1), .val (.int p2), .val (.int p3), .val (.int 5), .val (.int vb), .val (.int va), .val (.ref w_NOT_WORD_BOUNDARY), .val (.int 46267), .val (.int 0)]) rfl ?_
    show Steps p.tables e below (T1.setTop (mkF m 137 #[.val (.int p1), .val (.int p2), .val (.int p3), .val (.int 5), .val (.int vb), .val (.int va), .val (.ref w_NOT_WORD_BOUNDARY), .val (.int 46267), .val (.int 0)] [])) _
    refine XS.aload X1.here hx rfl (hb hby at_137) rfl rfl ?_
    show Steps p.tables e below (T1.setTop (mkF m 139 #[.val (.int p1), .val (.int p2), .val (.int p3), .val (.int 5), .val (.int vb), .val (.int va), .val (.ref w_NOT_WORD_BOUNDARY), .val (.int 46267), .val (.int 0)] [(.ref w_NOT_WORD_BOUNDARY)])) _
    refine XS.iload X1.here hx rfl (hb hby at_139) rfl ?_
    show Steps p.tables e below (T1.setTop (mkF m 141 #[.val (.int p1), .val (.int p2), .val (.int p3), .val (.int 5), .val (.int vb), .val (.int va), .val (.ref w_NOT_WORD_BOUNDARY), .val (.int 46267), .val (.int 0)] [(.int vb), (.ref w_NOT_WORD_BOUNDARY)])) _
    refine XS.iload X1.here hx rfl (hb hby at_141) rfl ?_
    show Steps p.tables e below (T1.setTop (mkF m 143 #[.val (.int p1), .val (.int p2), .val (.int p3), .val (.int 5), .val (.int vb), .val (.int va), .val (.ref w_NOT_WORD_BOUNDARY), .val (.int 46267), .val (.int 0)] [(.int va), (.int vb), (.ref w_NOT_WORD_BOUNDARY)])) _
    refine st2.trans ?_
    show Steps p.tables e below (T2.setTop (mkF m 146 #[.val (.int p1), .val (.int p2), .val (.int p3), .val (.int 5), .val (.int vb), .val (.int va), .val (.ref w_NOT_WORD_BOUNDARY), .val (.int 46267), .val (.int 0)] [(.int 0)])) _
    refine XS.iload X2.here hx rfl (hb hby at_146) rfl ?_
    show Steps p.tables e below (T2.setTop (mkF m 148 #[.val (.int p1), .val (.int p2), .val (.int p3), .val (.int 5), .val (.int vb), .val (.int va), .val (.ref w_NOT_WORD_BOUNDARY), .val (.int 46267), .val (.int 0)] [(.int 0), (.int 0)])) _
    refine XS.icmpNo X2.here hx rfl (hb hby at_148) rfl (teq (by decide : (0 : Int32) = (0 : Int32))).2 ?_
    show Steps p.tables e below (T2.setTop (mkF m 151 #[.val (.int p1), .val (.int p2), .val (.int p3), .val (.int 5), .val (.int vb), .val (.int va), .val (.ref w_NOT_WORD_BOUNDARY), .val (.int 46267), .val (.int 0)] [])) _
    refine XS.iconst X2.here hx rfl (hb hby at_151) ?_
    show Steps p.tables e below (T2.setTop (mkF m 152 #[.val (.int p1), .val (.int p2), .val (.int p3), .val (.int 5), .val (.int vb), .val (.int va), .val (.ref w_NOT_WORD_BOUNDARY), .val (.int 46267), .val (.int 0)] [(.int 1)])) _
    refine XS.goto X2.here hx rfl (pc0 := 152) (pc' := 156) rfl (hb hby at_152) (by decide) (by decide) ?_
    show Steps p.tables e below (T2.setTop (mkF m 156 #[.val (.int p1), .val (.int p2), .val (.int p3), .val (.int 5), .val (.int vb), .val (.int va), .val (.ref w_NOT_WORD_BOUNDARY), .val (.int 46267), .val (.int 0)] [(.int 1)])) _
    exact retN X2 hx (t := .boolean) Bd.returns (by simp) (hb hby at_156) hr
  · show Q0_k5tf Z p1 p2 p3 vb va w_NOT_WORD_BOUNDARY h0 n0 _ T2.heap _
    rw [e2]
    exact ⟨rfl, N2, rfl⟩
def Q1_w_NOT_WORD_BOUNDARY_vb_va_rtt (Z : State) (w_NOT_WORD_BOUNDARY : Addr) (vb : Int32) (va : Int32) (h0 : Heap) (n0 : Nat) (v : Option Value) (h : Heap) (L : List Loc) : Prop := v = some (.int 1) ∧ Fr n0 L ∧ h = h0
set_option maxRecDepth 65536 in
set_option maxHeartbeats 40000000 in
theorem rm1_w_NOT_WORD_BOUNDARY_vb_va_rtt (l : Launch) (Z : State) (a0 : Array Value) (hw : ∀ d ∈ tables_1, d.before a0 Z = true) (ws : List Jvm.Cond) (w_NOT_WORD_BOUNDARY : Addr) (vb : Int32) (va : Int32) (h0 : Heap) (n0 : Nat) (Z0 : n0 ≤ h0.size) (F_ordinal_w_NOT_WORD_BOUNDARY : Fld Z h0 w_NOT_WORD_BOUNDARY "java/lang/Enum" "ordinal" "I" (.int 5)) (E_w_NOT_WORD_BOUNDARY : Exa Z h0 w_NOT_WORD_BOUNDARY "com/example/termwell/termwell/core/text/RegexNode$Anchor") (hc145 : ¬ (vb = (2 : Int32))) (hc155 : ¬ (va = (2 : Int32))) :
    MetFree l (⟨"com/example/termwell/termwell/core/text/RegexNode$Anchor", "holds", "(II)Z"⟩ : MethodName) (head1 (Jvm.Cond.code (⟨"com/example/termwell/termwell/core/text/RegexNode$Anchor", "holds", "(II)Z"⟩ : MethodName) prog_28_method_5_code 3 (some .boolean) :: ws) ({ frames := 1, cells := 0, slots := 0, locals := 12 } : Room)) (fun a U => a = #[(.ref w_NOT_WORD_BOUNDARY), (.int vb), (.int va)] ∧ Z.Warmed39 U.vm ∧ U.heap = h0) (fun _ _ _ _ _ => True) (fun _ U o U' => ∃ v L, o = .returned v ∧ Q1_w_NOT_WORD_BOUNDARY_vb_va_rtt Z w_NOT_WORD_BOUNDARY vb va h0 n0 v U'.heap L ∧ FrameEnd U o U' L ({ frames := 1, cells := 0, slots := 0, locals := 12 } : Room).cells ({ frames := 1, cells := 0, slots := 0, locals := 12 } : Room).slots) := by
  refine MetFree.of_bodySF (plainFor_of_name pn_1) hisR ?_
  intro p e s m args below meth c s₁ Bd hml0 hP hK
  obtain ⟨rfl, hZ, hh⟩ := hP
  have hx := Bd.exec
  have hby := Bd.bytes
  have hml : c.maxLocals = 3 := hml0
  have hown : s.vm.findClass "com/example/termwell/termwell/core/text/RegexNode$Anchor" = some m.cls := findClass_of_methodNamed Bd.named
  have hnm := (name_of_methodNamed Bd.named Bd.method).1
  have X0 : Stand p l e ({ frames := 1, cells := 0, slots := 0, locals := 12 } : Room) s m #[(.ref w_NOT_WORD_BOUNDARY), (.int vb), (.int va)] below meth c s₁ [] 0 0 := Stand.of_body Bd
  have e0 : s₁.heap = h0 := by rw [← hh, Bd.state]; rfl
  have N0 := Fr.nil n0
  have pre0 : ∀ t, Steps p.tables e below (s₁.setTop (mkF m 0 #[.val (.ref w_NOT_WORD_BOUNDARY), .val (.int vb), .val (.int va)] [])) t → Steps p.tables e below (s₁.setTop (entryFrame m #[(.ref w_NOT_WORD_BOUNDARY), (.int vb), (.int va)] 3)) t := fun t k => castTop (by first | (simp [entryFrame, mkF, argsToLocals, Value.category]; done) | rfl) k
  obtain ⟨cq1, kq1, q1a, q1b, q1c⟩ := isOf hZ e0 E_w_NOT_WORD_BOUNDARY
  obtain ⟨_, _, ⟨T1, L1, k1, n1⟩, -, X1, ⟨Lc1, hQ1, l1, y1, z1⟩, st1⟩ := X0.virtualBackUp hx (x := (⟨"com/example/termwell/termwell/core/text/RegexNode$Anchor", "ordinal", "()I"⟩ : MethodName)) (y := (⟨"java/lang/Enum", "ordinal", "()I"⟩ : MethodName)) (owner := "java/lang/Enum") hown (mvT hZ (hw _ (List.mem_of_getElem? (i := 9) rfl))) (mvT hZ (hw _ (List.mem_of_getElem? (i := 10) rfl))) (mvT hZ (hw _ (List.mem_of_getElem? (i := 11) rfl))) (by decide) (mvT hZ (hw _ (List.mem_of_getElem? (i := 13) rfl))) (mvT hZ (hw _ (List.mem_of_getElem? (i := 12) rfl))) (backOf (W := 0) (rm2_w_NOT_WORD_BOUNDARY l Z a0 hw [] w_NOT_WORD_BOUNDARY h0 n0 Z0 F_ordinal_w_NOT_WORD_BOUNDARY) hZ (hw _ (List.mem_of_getElem? (i := 15) rfl)) (hw _ (List.mem_of_getElem? (i := 14) rfl)) (by decide) (by decide)) q1a q1c (g := (mkF m 1 #[.val (.ref w_NOT_WORD_BOUNDARY), .val (.int vb), .val (.int va)] [(.ref w_NOT_WORD_BOUNDARY)])) rfl (by rw [hml]; rfl) (Steps.refl _) (argsL := []) (rest := []) (lenOf pd___I rfl) rfl (by show 2 * 0 + _ ≤ _; exact Nat.le_of_eq rfl) (hb hby d1_1) (fun _ _ => ⟨rfl, e0, (by decide : 0 + 0 ≤ _), (by decide : 0 + 0 ≤ _)⟩)
  dsimp only [Pt.U, Pt.locs, Pt.cells, Pt.slots] at X1 l1 y1 z1 st1 hQ1
  subst l1 y1 z1
  obtain ⟨rfl, N1q, e1⟩ := hQ1
  have N1 := Fr.app N0 N1q
  obtain ⟨fs, hr, hrun, hended, hW, hsame⟩ := X1.leave (v := some (.int 1)) (fun h => by rw [Bd.returns] at h; cases h)
  refine ⟨_, _, pre0 _ ?_, hrun, hended, _, _, rfl, ?_, ⟨_, rfl⟩, hW, hsame.mono (by decide) (by decide)⟩
  · show Steps p.tables e below (s₁.setTop (mkF m 0 #[.val (.ref w_NOT_WORD_BOUNDARY), .val (.int vb), .val (.int va)] [])) _
    refine XS.aloadN X0.here hx rfl (hb hby d1_0) rfl rfl ?_
    show Steps p.tables e below (s₁.setTop (mkF m 1 #[.val (.ref w_NOT_WORD_BOUNDARY), .val (.int vb), .val (.int va)] [(.ref w_NOT_WORD_BOUNDARY)])) _
    refine st1.trans ?_
    show Steps p.tables e below (T1.setTop (mkF m 4 #[.val (.ref w_NOT_WORD_BOUNDARY), .val (.int vb), .val (.int va)] [(.int 5)])) _
    refine XS.tswIn X1.here hx rfl (pc0 := 4) (pc' := 143) rfl (hb hby d1_4) rfl (by decide) (o := 139) (by decide) (by decide) (by decide) ?_
    show Steps p.tables e below (T1.setTop (mkF m 143 #[.val (.ref w_NOT_WORD_BOUNDARY), .val (.int vb), .val (.int va)] [])) _
    refine XS.iloadN X1.here hx rfl (hb hby d1_143) rfl ?_
    show Steps p.tables e below (T1.setTop (mkF m 144 #[.val (.ref w_NOT_WORD_BOUNDARY), .val (.int vb), .val (.int va)] [(.int vb)])) _
    refine XS.iconst X1.here hx rfl (hb hby d1_144) ?_
    show Steps p.tables e below (T1.setTop (mkF m 145 #[.val (.ref w_NOT_WORD_BOUNDARY), .val (.int vb), .val (.int va)] [(.int 2), (.int vb)])) _
    refine XS.icmpYes X1.here hx rfl (pc0 := 145) (pc' := 152) rfl (hb hby d1_145) rfl (feq hc145).2 (by decide) (by decide) ?_
    show Steps p.tables e below (T1.setTop (mkF m 152 #[.val (.ref w_NOT_WORD_BOUNDARY), .val (.int vb), .val (.int va)] [])) _
    refine XS.iconst X1.here hx rfl (hb hby d1_152) ?_
    show Steps p.tables e below (T1.setTop (mkF m 153 #[.val (.ref w_NOT_WORD_BOUNDARY), .val (.int vb), .val (.int va)] [(.int 0)])) _
    refine XS.iloadN X1.here hx rfl (hb hby d1_153) rfl ?_
    show Steps p.tables e below (T1.setTop (mkF m 154 #[.val (.ref w_NOT_WORD_BOUNDARY), .val (.int vb), .val (.int va)] [(.int va), (.int 0)])) _
    refine XS.iconst X1.here hx rfl (hb hby d1_154) ?_
    show Steps p.tables e below (T1.setTop (mkF m 155 #[.val (.ref w_NOT_WORD_BOUNDARY), .val (.int vb), .val (.int va)] [(.int 2), (.int va), (.int 0)])) _
    refine XS.icmpYes X1.here hx rfl (pc0 := 155) (pc' := 162) rfl (hb hby d1_155) rfl (feq hc155).2 (by decide) (by decide) ?_
    show Steps p.tables e below (T1.setTop (mkF m 162 #[.val (.ref w_NOT_WORD_BOUNDARY), .val (.int vb), .val (.int va)] [(.int 0)])) _
    refine XS.iconst X1.here hx rfl (hb hby d1_162) ?_
    show Steps p.tables e below (T1.setTop (mkF m 163 #[.val (.ref w_NOT_WORD_BOUNDARY), .val (.int vb), .val (.int va)] [(.int 0), (.int 0)])) _
    refine XS.icmpNo X1.here hx rfl (hb hby d1_163) rfl (teq (by decide : (0 : Int32) = (0 : Int32))).2 ?_
    show Steps p.tables e below (T1.setTop (mkF m 166 #[.val (.ref w_NOT_WORD_BOUNDARY), .val (.int vb), .val (.int va)] [])) _
    refine XS.iconst X1.here hx rfl (hb hby d1_166) ?_
    show Steps p.tables e below (T1.setTop (mkF m 167 #[.val (.ref w_NOT_WORD_BOUNDARY), .val (.int vb), .val (.int va)] [(.int 1)])) _
    refine XS.goto X1.here hx rfl (pc0 := 167) (pc' := 171) rfl (hb hby d1_167) (by decide) (by decide) ?_
    show Steps p.tables e below (T1.setTop (mkF m 171 #[.val (.ref w_NOT_WORD_BOUNDARY), .val (.int vb), .val (.int va)] [(.int 1)])) _
    exact retN X1 hx (t := .boolean) Bd.returns (by simp) (hb hby d1_171) hr
  · show Q1_w_NOT_WORD_BOUNDARY_vb_va_rtt Z w_NOT_WORD_BOUNDARY vb va h0 n0 _ T1.heap _
    rw [e1]
    exact ⟨rfl, N1, rfl⟩
def Q0_k5tt (Z : State) (p1 : Int32) (p2 : Int32) (p3 : Int32) (vb : Int32) (va : Int32) (w_NOT_WORD_BOUNDARY : Addr) (h0 : Heap) (n0 : Nat) (v : Option Value) (h : Heap) (L : List Loc) : Prop := v = some (.int 1) ∧ Fr n0 L ∧ h = h0
set_option maxRecDepth 65536 in
set_option maxHeartbeats 40000000 in
theorem rm0_k5tt (l : Launch) (Z : State) (a0 : Array Value) (hw : ∀ d ∈ tables_1, d.before a0 Z = true) (ws : List Jvm.Cond) (p1 : Int32) (p2 : Int32) (p3 : Int32) (vb : Int32) (va : Int32) (w_NOT_WORD_BOUNDARY : Addr) (h0 : Heap) (n0 : Nat) (Z0 : n0 ≤ h0.size) (hk : ((p1 &&& (2147483647 : Int32)) % (6 : Int32)) = (5 : Int32)) (hvb : (p2 &&& (3 : Int32)) = vb) (hva : (p3 &&& (3 : Int32)) = va) (S_NOT_WORD_BOUNDARY : Sta Z h0 "com/example/termwell/termwell/core/text/RegexNode$Anchor" "NOT_WORD_BOUNDARY" "Lcom/example/termwell/termwell/core/text/RegexNode$Anchor;" (.ref w_NOT_WORD_BOUNDARY)) (he : ((((46267 : Int32).toUInt32 >>> (((vb * (4 : Int32)) + va) &&& 31).toUInt32).toInt32) &&& (1 : Int32)) = (1 : Int32)) (F_ordinal_w_NOT_WORD_BOUNDARY : Fld Z h0 w_NOT_WORD_BOUNDARY "java/lang/Enum" "ordinal" "I" (.int 5)) (E_w_NOT_WORD_BOUNDARY : Exa Z h0 w_NOT_WORD_BOUNDARY "com/example/termwell/termwell/core/text/RegexNode$Anchor") (hc145 : ¬ (vb = (2 : Int32))) (hc155 : ¬ (va = (2 : Int32))) :
    MetFree l x (head1 (Jvm.Cond.code x code maxLocals ret :: ws) room_1) (fun a U => a = #[(.int p1), (.int p2), (.int p3)] ∧ Z.Warmed39 U.vm ∧ U.heap = h0) (fun _ _ _ _ _ => True) (fun _ U o U' => ∃ v L, o = .returned v ∧ Q0_k5tt Z p1 p2 p3 vb va w_NOT_WORD_BOUNDARY h0 n0 v U'.heap L ∧ FrameEnd U o U' L room_1.cells room_1.slots) := by
  refine MetFree.of_bodySF (plainFor_of_name pn_0) hisR ?_
  intro p e s m args below meth c s₁ Bd hml0 hP hK
  obtain ⟨rfl, hZ, hh⟩ := hP
  have hx := Bd.exec
  have hby := Bd.bytes
  have hml : c.maxLocals = 9 := hml0
  have hown : s.vm.findClass "com/example/termwell/termwell/core/text/AnchorHoldsPinLaw" = some m.cls := findClass_of_methodNamed Bd.named
  have hnm := (name_of_methodNamed Bd.named Bd.method).1
  have X0 : Stand p l e room_1 s m #[(.int p1), (.int p2), (.int p3)] below meth c s₁ [] 0 0 := Stand.of_body Bd
  have e0 : s₁.heap = h0 := by rw [← hh, Bd.state]; rfl
  have N0 := Fr.nil n0
  have pre0 : ∀ t, Steps p.tables e below (s₁.setTop (mkF m 0 #[.val (.int p1), .val (.int p2), .val (.int p3), .unset, .unset, .unset, .unset, .unset, .unset] [])) t → Steps p.tables e below (s₁.setTop (entryFrame m #[(.int p1), (.int p2), (.int p3)] maxLocals)) t := fun t k => castTop (by first | (simp [entryFrame, mkF, argsToLocals, Value.category, maxLocals]; done) | rfl) k
  obtain ⟨T1, X1, e1, st1⟩ := getS2 X0 hx hZ hown (host := "") (Or.inl (hw _ (List.mem_of_getElem? (i := 22) rfl))) Via.refl e0 S_NOT_WORD_BOUNDARY (g := (mkF m 106 #[.val (.int p1), .val (.int p2), .val (.int p3), .val (.int 5), .val (.int vb), .val (.int va), .unset, .unset, .unset] [])) rfl (hb hby at_106)
  obtain ⟨cq2, kq2, q2a, q2b, q2c⟩ := isOf hZ e1 E_w_NOT_WORD_BOUNDARY
  obtain ⟨_, _, ⟨T2, L2, k2, n2⟩, -, X2, ⟨Lc2, hQ2, l2, y2, z2⟩, st2⟩ := X1.virtualBack hx (y := (⟨"com/example/termwell/termwell/core/text/RegexNode$Anchor", "holds", "(II)Z"⟩ : MethodName)) (z := (⟨"com/example/termwell/termwell/core/text/RegexNode$Anchor", "holds", "(II)Z"⟩ : MethodName)) hown (mvT hZ (hw _ (List.mem_of_getElem? (i := 4) rfl))) (mvT hZ (hw _ (List.mem_of_getElem? (i := 5) rfl))) (notFace_of_selects (args := #[]) (mvT hZ (hw _ (List.mem_of_getElem? (i := 7) rfl)))) (mvT hZ (hw _ (List.mem_of_getElem? (i := 7) rfl))) (mvT hZ (hw _ (List.mem_of_getElem? (i := 6) rfl))) (by decide) (backOf (W := 0) (rm1_w_NOT_WORD_BOUNDARY_vb_va_rtt l Z a0 hw [] w_NOT_WORD_BOUNDARY vb va h0 n0 Z0 F_ordinal_w_NOT_WORD_BOUNDARY E_w_NOT_WORD_BOUNDARY hc145 hc155) hZ (hw _ (List.mem_of_getElem? (i := 8) rfl)) (hw _ (List.mem_of_getElem? (i := 2) rfl)) (by decide) (by decide)) q2a q2c (g := (mkF m 143 #[.val (.int p1), .val (.int p2), .val (.int p3), .val (.int 5), .val (.int vb), .val (.int va), .val (.ref w_NOT_WORD_BOUNDARY), .val (.int 46267), .val (.int 1)] [(.int va), (.int vb), (.ref w_NOT_WORD_BOUNDARY)])) rfl (by rw [hml]; rfl) (Steps.refl _) (argsL := [(.int vb), (.int va)]) (rest := []) (lenOf pd__II_Z rfl) rfl (by show 2 * 0 + _ ≤ _; exact Nat.le_of_eq rfl) (hb hby at_143) (fun _ _ => ⟨rfl, e1, (by decide : 0 + 0 ≤ _), (by decide : 0 + 0 ≤ _)⟩)
  dsimp only [Pt.U, Pt.locs, Pt.cells, Pt.slots] at X2 l2 y2 z2 st2 hQ2
  subst l2 y2 z2
  obtain ⟨rfl, N2q, e2⟩ := hQ2
  have N2 := Fr.app N0 N2q
  obtain ⟨fs, hr, hrun, hended, hW, hsame⟩ := X2.leave (v := some (.int 1)) (fun h => by rw [Bd.returns] at h; cases h)
  refine ⟨_, _, pre0 _ ?_, hrun, hended, _, _, rfl, ?_, ⟨_, rfl⟩, hW, hsame.mono (by decide) (by decide)⟩
  · show Steps p.tables e below (s₁.setTop (mkF m 0 #[.val (.int p1), .val (.int p2), .val (.int p3), .unset, .unset, .unset, .unset, .unset, .unset] [])) _
    refine XS.iloadN X0.here hx rfl (hb hby at_0) rfl ?_
    show Steps p.tables e below (s₁.setTop (mkF m 1 #[.val (.int p1), .val (.int p2), .val (.int p3), .unset, .unset, .unset, .unset, .unset, .unset] [(.int p1)])) _
    refine X0.ldcInt hx hown (mvT hZ (hw _ (List.mem_of_getElem? (i := 0) rfl))) (g := (mkF m 1 #[.val (.int p1), .val (.int p2), .val (.int p3), .unset, .unset, .unset, .unset, .unset, .unset] [(.int p1)])) rfl (hb hby at_1) _ ?_
    show Steps p.tables e below (s₁.setTop (mkF m 3 #[.val (.int p1), .val (.int p2), .val (.int p3), .unset, .unset, .unset, .unset, .unset, .unset] [(.int 2147483647), (.int p1)])) _
    refine XS.iand X0.here hx rfl (hb hby at_3) rfl ?_
    show Steps p.tables e below (s₁.setTop (mkF m 4 #[.val (.int p1), .val (.int p2), .val (.int p3), .unset, .unset, .unset, .unset, .unset, .unset] [(.int (p1 &&& (2147483647 : Int32)))])) _
    refine XS.bipush X0.here hx rfl (hb hby at_4) ?_
    show Steps p.tables e below (s₁.setTop (mkF m 6 #[.val (.int p1), .val (.int p2), .val (.int p3), .unset, .unset, .unset, .unset, .unset, .unset] [(.int 6), (.int (p1 &&& (2147483647 : Int32)))])) _
    refine iremM X0 hx rfl (hb hby at_6) rfl (by decide) ?_
    show Steps p.tables e below (s₁.setTop (mkF m 7 #[.val (.int p1), .val (.int p2), .val (.int p3), .unset, .unset, .unset, .unset, .unset, .unset] [(.int ((p1 &&& (2147483647 : Int32)) % (6 : Int32)))])) _
    rw [hk]
    show Steps p.tables e below (s₁.setTop (mkF m 7 #[.val (.int p1), .val (.int p2), .val (.int p3), .unset, .unset, .unset, .unset, .unset, .unset] [(.int 5)])) _
    refine XS.istoreN X0.here hx rfl (hb hby at_7) rfl (l' := #[.val (.int p1), .val (.int p2), .val (.int p3), .val (.int 5), .unset, .unset, .unset, .unset, .unset]) rfl ?_
    show Steps p.tables e below (s₁.setTop (mkF m 8 #[.val (.int p1), .val (.int p2), .val (.int p3), .val (.int 5), .unset, .unset, .unset, .unset, .unset] [])) _
    refine XS.iloadN X0.here hx rfl (hb hby at_8) rfl ?_
    show Steps p.tables e below (s₁.setTop (mkF m 9 #[.val (.int p1), .val (.int p2), .val (.int p3), .val (.int 5), .unset, .unset, .unset, .unset, .unset] [(.int p2)])) _
    refine XS.iconst X0.here hx rfl (hb hby at_9) ?_
    show Steps p.tables e below (s₁.setTop (mkF m 10 #[.val (.int p1), .val (.int p2), .val (.int p3), .val (.int 5), .unset, .unset, .unset, .unset, .unset] [(.int 3), (.int p2)])) _
    refine XS.iand X0.here hx rfl (hb hby at_10) rfl ?_
    show Steps p.tables e below (s₁.setTop (mkF m 11 #[.val (.int p1), .val (.int p2), .val (.int p3), .val (.int 5), .unset, .unset, .unset, .unset, .unset] [(.int (p2 &&& (3 : Int32)))])) _
    rw [hvb]
    show Steps p.tables e below (s₁.setTop (mkF m 11 #[.val (.int p1), .val (.int p2), .val (.int p3), .val (.int 5), .unset, .unset, .unset, .unset, .unset] [(.int vb)])) _
    refine XS.istore X0.here hx rfl (hb hby at_11) rfl (l' := #[.val (.int p1), .val (.int p2), .val (.int p3), .val (.int 5), .val (.int vb), .unset, .unset, .unset, .unset]) rfl ?_
    show Steps p.tables e below (s₁.setTop (mkF m 13 #[.val (.int p1), .val (.int p2), .val (.int p3), .val (.int 5), .val (.int vb), .unset, .unset, .unset, .unset] [])) _
    refine XS.iloadN X0.here hx rfl (hb hby at_13) rfl ?_
    show Steps p.tables e below (s₁.setTop (mkF m 14 #[.val (.int p1), .val (.int p2), .val (.int p3), .val (.int 5), .val (.int vb), .unset, .unset, .unset, .unset] [(.int p3)])) _
    refine XS.iconst X0.here hx rfl (hb hby at_14) ?_
    show Steps p.tables e below (s₁.setTop (mkF m 15 #[.val (.int p1), .val (.int p2), .val (.int p3), .val (.int 5), .val (.int vb), .unset, .unset, .unset, .unset] [(.int 3), (.int p3)])) _
    refine XS.iand X0.here hx rfl (hb hby at_15) rfl ?_
    show Steps p.tables e below (s₁.setTop (mkF m 16 #[.val (.int p1), .val (.int p2), .val (.int p3), .val (.int 5), .val (.int vb), .unset, .unset, .unset, .unset] [(.int (p3 &&& (3 : Int32)))])) _
    rw [hva]
    show Steps p.tables e below (s₁.setTop (mkF m 16 #[.val (.int p1), .val (.int p2), .val (.int p3), .val (.int 5), .val (.int vb), .unset, .unset, .unset, .unset] [(.int va)])) _
    refine XS.istore X0.here hx rfl (hb hby at_16) rfl (l' := #[.val (.int p1), .val (.int p2), .val (.int p3), .val (.int 5), .val (.int vb), .val (.int va), .unset, .unset, .unset]) rfl ?_
    show Steps p.tables e below (s₁.setTop (mkF m 18 #[.val (.int p1), .val (.int p2), .val (.int p3), .val (.int 5), .val (.int vb), .val (.int va), .unset, .unset, .unset] [])) _
    refine XS.iloadN X0.here hx rfl (hb hby at_18) rfl ?_
    show Steps p.tables e below (s₁.setTop (mkF m 19 #[.val (.int p1), .val (.int p2), .val (.int p3), .val (.int 5), .val (.int vb), .val (.int va), .unset, .unset, .unset] [(.int 5)])) _
    refine XS.ifYes X0.here hx rfl (pc0 := 19) (pc' := 34) rfl (hb hby at_19) rfl ((if0 _ _).trans (feq (by decide : ¬ ((5 : Int32) = (0 : Int32)))).2) (by decide) (by decide) ?_
    show Steps p.tables e below (s₁.setTop (mkF m 34 #[.val (.int p1), .val (.int p2), .val (.int p3), .val (.int 5), .val (.int vb), .val (.int va), .unset, .unset, .unset] [])) _
    refine XS.iloadN X0.here hx rfl (hb hby at_34) rfl ?_
    show Steps p.tables e below (s₁.setTop (mkF m 35 #[.val (.int p1), .val (.int p2), .val (.int p3), .val (.int 5), .val (.int vb), .val (.int va), .unset, .unset, .unset] [(.int 5)])) _
    refine XS.iconst X0.here hx rfl (hb hby at_35) ?_
    show Steps p.tables e below (s₁.setTop (mkF m 36 #[.val (.int p1), .val (.int p2), .val (.int p3), .val (.int 5), .val (.int vb), .val (.int va), .unset, .unset, .unset] [(.int 1), (.int 5)])) _
    refine XS.icmpYes X0.here hx rfl (pc0 := 36) (pc' := 52) rfl (hb hby at_36) rfl (feq (by decide : ¬ ((5 : Int32) = (1 : Int32)))).2 (by decide) (by decide) ?_
    show Steps p.tables e below (s₁.setTop (mkF m 52 #[.val (.int p1), .val (.int p2), .val (.int p3), .val (.int 5), .val (.int vb), .val (.int va), .unset, .unset, .unset] [])) _
    refine XS.iloadN X0.here hx rfl (hb hby at_52) rfl ?_
    show Steps p.tables e below (s₁.setTop (mkF m 53 #[.val (.int p1), .val (.int p2), .val (.int p3), .val (.int 5), .val (.int vb), .val (.int va), .unset, .unset, .unset] [(.int 5)])) _
    refine XS.iconst X0.here hx rfl (hb hby at_53) ?_
    show Steps p.tables e below (s₁.setTop (mkF m 54 #[.val (.int p1), .val (.int p2), .val (.int p3), .val (.int 5), .val (.int vb), .val (.int va), .unset, .unset, .unset] [(.int 2), (.int 5)])) _
    refine XS.icmpYes X0.here hx rfl (pc0 := 54) (pc' := 70) rfl (hb hby at_54) rfl (feq (by decide : ¬ ((5 : Int32) = (2 : Int32)))).2 (by decide) (by decide) ?_
    show Steps p.tables e below (s₁.setTop (mkF m 70 #[.val (.int p1), .val (.int p2), .val (.int p3), .val (.int 5), .val (.int vb), .val (.int va), .unset, .unset, .unset] [])) _
    refine XS.iloadN X0.here hx rfl (hb hby at_70) rfl ?_
    show Steps p.tables e below (s₁.setTop (mkF m 71 #[.val (.int p1), .val (.int p2), .val (.int p3), .val (.int 5), .val (.int vb), .val (.int va), .unset, .unset, .unset] [(.int 5)])) _
    refine XS.iconst X0.here hx rfl (hb hby at_71) ?_
    show Steps p.tables e below (s₁.setTop (mkF m 72 #[.val (.int p1), .val (.int p2), .val (.int p3), .val (.int 5), .val (.int vb), .val (.int va), .unset, .unset, .unset] [(.int 3), (.int 5)])) _
    refine XS.icmpYes X0.here hx rfl (pc0 := 72) (pc' := 88) rfl (hb hby at_72) rfl (feq (by decide : ¬ ((5 : Int32) = (3 : Int32)))).2 (by decide) (by decide) ?_
    show Steps p.tables e below (s₁.setTop (mkF m 88 #[.val (.int p1), .val (.int p2), .val (.int p3), .val (.int 5), .val (.int vb), .val (.int va), .unset, .unset, .unset] [])) _
    refine XS.iloadN X0.here hx rfl (hb hby at_88) rfl ?_
    show Steps p.tables e below (s₁.setTop (mkF m 89 #[.val (.int p1), .val (.int p2), .val (.int p3), .val (.int 5), .val (.int vb), .val (.int va), .unset, .unset, .unset] [(.int 5)])) _
    refine XS.iconst X0.here hx rfl (hb hby at_89) ?_
    show Steps p.tables e below (s₁.setTop (mkF m 90 #[.val (.int p1), .val (.int p2), .val (.int p3), .val (.int 5), .val (.int vb), .val (.int va), .unset, .unset, .unset] [(.int 4), (.int 5)])) _
    refine XS.icmpYes X0.here hx rfl (pc0 := 90) (pc' := 106) rfl (hb hby at_90) rfl (feq (by decide : ¬ ((5 : Int32) = (4 : Int32)))).2 (by decide) (by decide) ?_
    show Steps p.tables e below (s₁.setTop (mkF m 106 #[.val (.int p1), .val (.int p2), .val (.int p3), .val (.int 5), .val (.int vb), .val (.int va), .unset, .unset, .unset] [])) _
    refine st1 _ ?_
    show Steps p.tables e below (T1.setTop (mkF m 109 #[.val (.int p1), .val (.int p2), .val (.int p3), .val (.int 5), .val (.int vb), .val (.int va), .unset, .unset, .unset] [(.ref w_NOT_WORD_BOUNDARY)])) _
    refine XS.astore X1.here hx rfl (hb hby at_109) rfl rfl (l' := #[.val (.int p1), .val (.int p2), .val (.int p3), .val (.int 5), .val (.int vb), .val (.int va), .val (.ref w_NOT_WORD_BOUNDARY), .unset, .unset]) rfl ?_
    show Steps p.tables e below (T1.setTop (mkF m 111 #[.val (.int p1), .val (.int p2), .val (.int p3), .val (.int 5), .val (.int vb), .val (.int va), .val (.ref w_NOT_WORD_BOUNDARY), .unset, .unset] [])) _
    refine X1.ldcInt hx hown (mvT hZ (hw _ (List.mem_of_getElem? (i := 24) rfl))) (g := (mkF m 111 #[.val (.int p1), .val (.int p2), .val (.int p3), .val (.int 5), .val (.int vb), .val (.int va), .val (.ref w_NOT_WORD_BOUNDARY), .unset, .unset] [])) rfl (hb hby at_111) _ ?_
    show Steps p.tables e below (T1.setTop (mkF m 113 #[.val (.int p1), .val (.int p2), .val (.int p3), .val (.int 5), .val (.int vb), .val (.int va), .val (.ref w_NOT_WORD_BOUNDARY), .unset, .unset] [(.int 46267)])) _
    refine XS.istore X1.here hx rfl (hb hby at_113) rfl (l' := #[.val (.int p1), .val (.int p2), .val (.int p3), .val (.int 5), .val (.int vb), .val (.int va), .val (.ref w_NOT_WORD_BOUNDARY), .val (.int 46267), .unset]) rfl ?_
    show Steps p.tables e below (T1.setTop (mkF m 115 #[.val (.int p1), .val (.int p2), .val (.int p3), .val (.int 5), .val (.int vb), .val (.int va), .val (.ref w_NOT_WORD_BOUNDARY), .val (.int 46267), .unset] [])) _
    refine XS.iload X1.here hx rfl (hb hby at_115) rfl ?_
    show Steps p.tables e below (T1.setTop (mkF m 117 #[.val (.int p1), .val (.int p2), .val (.int p3), .val (.int 5), .val (.int vb), .val (.int va), .val (.ref w_NOT_WORD_BOUNDARY), .val (.int 46267), .unset] [(.int 46267)])) _
    refine XS.iload X1.here hx rfl (hb hby at_117) rfl ?_
    show Steps p.tables e below (T1.setTop (mkF m 119 #[.val (.int p1), .val (.int p2), .val (.int p3), .val (.int 5), .val (.int vb), .val (.int va), .val (.ref w_NOT_WORD_BOUNDARY), .val (.int 46267), .unset] [(.int vb), (.int 46267)])) _
    refine XS.iconst X1.here hx rfl (hb hby at_119) ?_
    show Steps p.tables e below (T1.setTop (mkF m 120 #[.val (.int p1), .val (.int p2), .val (.int p3), .val (.int 5), .val (.int vb), .val (.int va), .val (.ref w_NOT_WORD_BOUNDARY), .val (.int 46267), .unset] [(.int 4), (.int vb), (.int 46267)])) _
    refine XS.imul X1.here hx rfl (hb hby at_120) rfl ?_
    show Steps p.tables e below (T1.setTop (mkF m 121 #[.val (.int p1), .val (.int p2), .val (.int p3), .val (.int 5), .val (.int vb), .val (.int va), .val (.ref w_NOT_WORD_BOUNDARY), .val (.int 46267), .unset] [(.int (vb * (4 : Int32))), (.int 46267)])) _
    refine XS.iload X1.here hx rfl (hb hby at_121) rfl ?_
    show Steps p.tables e below (T1.setTop (mkF m 123 #[.val (.int p1), .val (.int p2), .val (.int p3), .val (.int 5), .val (.int vb), .val (.int va), .val (.ref w_NOT_WORD_BOUNDARY), .val (.int 46267), .unset] [(.int va), (.int (vb * (4 : Int32))), (.int 46267)])) _
    refine XS.iadd X1.here hx rfl (hb hby at_123) rfl ?_
    show Steps p.tables e below (T1.setTop (mkF m 124 #[.val (.int p1), .val (.int p2), .val (.int p3), .val (.int 5), .val (.int vb), .val (.int va), .val (.ref w_NOT_WORD_BOUNDARY), .val (.int 46267), .unset] [(.int ((vb * (4 : Int32)) + va)), (.int 46267)])) _
    refine XS.iushr X1.here hx rfl (hb hby at_124) rfl ?_
    show Steps p.tables e below (T1.setTop (mkF m 125 #[.val (.int p1), .val (.int p2), .val (.int p3), .val (.int 5), .val (.int vb), .val (.int va), .val (.ref w_NOT_WORD_BOUNDARY), .val (.int 46267), .unset] [(.int (((46267 : Int32).toUInt32 >>> (((vb * (4 : Int32)) + va) &&& 31).toUInt32).toInt32))])) _
    refine XS.iconst X1.here hx rfl (hb hby at_125) ?_
    show Steps p.tables e below (T1.setTop (mkF m 126 #[.val (.int p1), .val (.int p2), .val (.int p3), .val (.int 5), .val (.int vb), .val (.int va), .val (.ref w_NOT_WORD_BOUNDARY), .val (.int 46267), .unset] [(.int 1), (.int (((46267 : Int32).toUInt32 >>> (((vb * (4 : Int32)) + va) &&& 31).toUInt32).toInt32))])) _
    refine XS.iand X1.here hx rfl (hb hby at_126) rfl ?_
    show Steps p.tables e below (T1.setTop (mkF m 127 #[.val (.int p1), .val (.int p2), .val (.int p3), .val (.int 5), .val (.int vb), .val (.int va), .val (.ref w_NOT_WORD_BOUNDARY), .val (.int 46267), .unset] [(.int ((((46267 : Int32).toUInt32 >>> (((vb * (4 : Int32)) + va) &&& 31).toUInt32).toInt32) &&& (1 : Int32)))])) _
    rw [he]
    show Steps p.tables e below (T1.setTop (mkF m 127 #[.val (.int p1), .val (.int p2), .val (.int p3), .val (.int 5), .val (.int vb), .val (.int va), .val (.ref w_NOT_WORD_BOUNDARY), .val (.int 46267), .unset] [(.int 1)])) _
    refine XS.ifNo X1.here hx rfl (hb hby at_127) rfl ((if0 _ _).trans (feq (by decide : ¬ ((1 : Int32) = (0 : Int32)))).1) ?_
    show Steps p.tables e below (T1.setTop (mkF m 130 #[.val (.int p1), .val (.int p2), .val (.int p3), .val (.int 5), .val (.int vb), .val (.int va), .val (.ref w_NOT_WORD_BOUNDARY), .val (.int 46267), .unset] [])) _
    refine XS.iconst X1.here hx rfl (hb hby at_130) ?_
    show Steps p.tables e below (T1.setTop (mkF m 131 #[.val (.int p1), .val (.int p2), .val (.int p3), .val (.int 5), .val (.int vb), .val (.int va), .val (.ref w_NOT_WORD_BOUNDARY), .val (.int 46267), .unset] [(.int 1)])) _
    refine XS.goto X1.here hx rfl (pc0 := 131) (pc' := 135) rfl (hb hby at_131) (by decide) (by decide) ?_
    show Steps p.tables e below (T1.setTop (mkF m 135 #[.val (.int p1), .val (.int p2), .val (.int p3), .val (.int 5), .val (.int vb), .val (.int va), .val (.ref w_NOT_WORD_BOUNDARY), .val (.int 46267), .unset] [(.int 1)])) _
    refine XS.istore X1.here hx rfl (hb hby at_135) rfl (l' := #[.val (.int p1), .val (.int p2), .val (.int p3), .val (.int 5), .val (.int vb), .val (.int va), .val (.ref w_NOT_WORD_BOUNDARY), .val (.int 46267), .val (.int 1)]) rfl ?_
    show Steps p.tables e below (T1.setTop (mkF m 137 #[.val (.int p1), .val (.int p2), .val (.int p3), .val (.int 5), .val (.int vb), .val (.int va), .val (.ref w_NOT_WORD_BOUNDARY), .val (.int 46267), .val (.int 1)] [])) _
    refine XS.aload X1.here hx rfl (hb hby at_137) rfl rfl ?_
    show Steps p.tables e below (T1.setTop (mkF m 139 #[.val (.int p1), .val (.int p2), .val (.int p3), .val (.int 5), .val (.int vb), .val (.int va), .val (.ref w_NOT_WORD_BOUNDARY), .val (.int 46267), .val (.int 1)] [(.ref w_NOT_WORD_BOUNDARY)])) _
    refine XS.iload X1.here hx rfl (hb hby at_139) rfl ?_
    show Steps p.tables e below (T1.setTop (mkF m 141 #[.val (.int p1), .val (.int p2), .val (.int p3), .val (.int 5), .val (.int vb), .val (.int va), .val (.ref w_NOT_WORD_BOUNDARY), .val (.int 46267), .val (.int 1)] [(.int vb), (.ref w_NOT_WORD_BOUNDARY)])) _
    refine XS.iload X1.here hx rfl (hb hby at_141) rfl ?_
    show Steps p.tables e below (T1.setTop (mkF m 143 #[.val (.int p1), .val (.int p2), .val (.int p3), .val (.int 5), .val (.int vb), .val (.int va), .val (.ref w_NOT_WORD_BOUNDARY), .val (.int 46267), .val (.int 1)] [(.int va), (.int vb), (.ref w_NOT_WORD_BOUNDARY)])) _
    refine st2.trans ?_
    show Steps p.tables e below (T2.setTop (mkF m 146 #[.val (.int p1), .val (.int p2), .val (.int p3), .val (.int 5), .val (.int vb), .val (.int va), .val (.ref w_NOT_WORD_BOUNDARY), .val (.int 46267), .val (.int 1)] [(.int 1)])) _
    refine XS.iload X2.here hx rfl (hb hby at_146) rfl ?_
    show Steps p.tables e below (T2.setTop (mkF m 148 #[.val (.int p1), .val (.int p2), .val (.int p3), .val (.int 5), .val (.int vb), .val (.int va), .val (.ref w_NOT_WORD_BOUNDARY), .val (.int 46267), .val (.int 1)] [(.int 1), (.int 1)])) _
    refine XS.icmpNo X2.here hx rfl (hb hby at_148) rfl (teq (by decide : (1 : Int32) = (1 : Int32))).2 ?_
    show Steps p.tables e below (T2.setTop (mkF m 151 #[.val (.int p1), .val (.int p2), .val (.int p3), .val (.int 5), .val (.int vb), .val (.int va), .val (.ref w_NOT_WORD_BOUNDARY), .val (.int 46267), .val (.int 1)] [])) _
    refine XS.iconst X2.here hx rfl (hb hby at_151) ?_
    show Steps p.tables e below (T2.setTop (mkF m 152 #[.val (.int p1), .val (.int p2), .val (.int p3), .val (.int 5), .val (.int vb), .val (.int va), .val (.ref w_NOT_WORD_BOUNDARY), .val (.int 46267), .val (.int 1)] [(.int 1)])) _
    refine XS.goto X2.here hx rfl (pc0 := 152) (pc' := 156) rfl (hb hby at_152) (by decide) (by decide) ?_
    show Steps p.tables e below (T2.setTop (mkF m 156 #[.val (.int p1), .val (.int p2), .val (.int p3), .val (.int 5), .val (.int vb), .val (.int va), .val (.ref w_NOT_WORD_BOUNDARY), .val (.int 46267), .val (.int 1)] [(.int 1)])) _
    exact retN X2 hx (t := .boolean) Bd.returns (by simp) (hb hby at_156) hr
  · show Q0_k5tt Z p1 p2 p3 vb va w_NOT_WORD_BOUNDARY h0 n0 _ T2.heap _
    rw [e2]
    exact ⟨rfl, N2, rfl⟩
set_option maxRecDepth 65536 in
set_option maxHeartbeats 40000000 in
theorem comes_1 {Post : Tables → Env → Array Value → State → Outcome → State → Prop} (hpost : ∀ tb e args s v u, (limb_1_1.after args s (.returned v) u = true ∧ limb_1_2.after args s (.returned v) u = true ∧ True) → FrameEnd s (.returned v) u (Jvm.fieldLocs frame_1_writes args s ++ Jvm.arrayLocs frame_1_arrays args s ++ Jvm.staticLocs frame_1_statics s) 0 0 → Post tb e args s (.returned v) u) :
    ArmFor flags0 classFile x code maxLocals ret World_1 tables_1 room_1 Calls_1 rest_1 Pre_1 Post := by
  intro l hfl _ _ p e ha hc hk s m args below hf hA hF happ hP
  obtain ⟨hcalls, hrest, hpre⟩ := hP
  obtain ⟨-, -, -, hnamed, -, -, -, hat⟩ := (Spec.applies_iff hf).mp happ
  obtain ⟨hg, hn⟩ := and_e (Cond.before_iff.mp (show (Jvm.Cond.and given_1 narrow_1).before args s = true from hpre))
  obtain ⟨g1a, g1b⟩ := and_e hg
  obtain ⟨g2a, g2b⟩ := and_e g1b
  obtain ⟨g3a, g3b⟩ := and_e g2b
  obtain ⟨w0, w1, w2, rfl⟩ : ∃ w0 w1 w2 : Value, args = #[w0, w1, w2] := by
    have hs : args.size = 3 := by simpa [Cond.value, given_1] using g1a
    obtain ⟨L⟩ := args
    match L, hs with
    | [w0, w1, w2], _ => exact ⟨w0, w1, w2, rfl⟩
  have hw := fun d (hd : d ∈ tables_1) => atoms_spec (ws := Jvm.Cond.code x code maxLocals ret :: tables_1) hat d (List.mem_cons_of_mem _ hd)
  have hfit : Fit s := fun {y c} hc i hi => by
    obtain ⟨ha, rfl⟩ := Array.getElem?_eq_some_iff.mp hc
    have q := List.all_eq_true.mp ((Array.all_eq_true_iff_forall_mem.mp hF) _ (Array.getElem_mem ha)) i (List.mem_range.mpr hi)
    simpa [Array.getElem?_eq_getElem hi] using q
  obtain ⟨i0, ei0⟩ := is_v g2a
  obtain rfl : w0 = (.int i0) := Option.some.inj ei0
  obtain ⟨i1, ei1⟩ := is_v g3a
  obtain rfl : w1 = (.int i1) := Option.some.inj ei1
  obtain ⟨i2, ei2⟩ := is_v g3b
  obtain rfl : w2 = (.int i2) := Option.some.inj ei2
  obtain ⟨g4a, g4b⟩ := and_e hn
  obtain ⟨g5a, g5b⟩ := and_e g4b
  obtain ⟨g6a, g6b⟩ := and_e g5b
  obtain ⟨g7a, g7b⟩ := and_e g6b
  obtain ⟨g8a, g8b⟩ := and_e g7b
  obtain ⟨g9a, g9b⟩ := and_e g8b
  obtain ⟨g10a, g10b⟩ := and_e g9b
  obtain ⟨g11a, g11b⟩ := and_e g10b
  obtain ⟨g12a, g12b⟩ := and_e g11b
  obtain ⟨g13a, g13b⟩ := and_e g12b
  obtain ⟨g14a, g14b⟩ := and_e g13b
  obtain ⟨w_TEXT_START, ev_TEXT_START⟩ := exa_v g4a
  have E_w_TEXT_START : Exa s s.heap w_TEXT_START "com/example/termwell/termwell/core/text/RegexNode$Anchor" := Exa.start ev_TEXT_START g4a
  have S_TEXT_START : Sta s s.heap "com/example/termwell/termwell/core/text/RegexNode$Anchor" "TEXT_START" "Lcom/example/termwell/termwell/core/text/RegexNode$Anchor;" (.ref w_TEXT_START) := Sta.start ev_TEXT_START (Or.inr ⟨(hw _ (List.mem_of_getElem? (i := 2) rfl)), (hw _ (List.mem_of_getElem? (i := 3) rfl))⟩)
  obtain ⟨w_TEXT_END, ev_TEXT_END⟩ := exa_v g6a
  have E_w_TEXT_END : Exa s s.heap w_TEXT_END "com/example/termwell/termwell/core/text/RegexNode$Anchor" := Exa.start ev_TEXT_END g6a
  have S_TEXT_END : Sta s s.heap "com/example/termwell/termwell/core/text/RegexNode$Anchor" "TEXT_END" "Lcom/example/termwell/termwell/core/text/RegexNode$Anchor;" (.ref w_TEXT_END) := Sta.start ev_TEXT_END (Or.inr ⟨(hw _ (List.mem_of_getElem? (i := 2) rfl)), (hw _ (List.mem_of_getElem? (i := 19) rfl))⟩)
  obtain ⟨w_LINE_START, ev_LINE_START⟩ := exa_v g8a
  have E_w_LINE_START : Exa s s.heap w_LINE_START "com/example/termwell/termwell/core/text/RegexNode$Anchor" := Exa.start ev_LINE_START g8a
  have S_LINE_START : Sta s s.heap "com/example/termwell/termwell/core/text/RegexNode$Anchor" "LINE_START" "Lcom/example/termwell/termwell/core/text/RegexNode$Anchor;" (.ref w_LINE_START) := Sta.start ev_LINE_START (Or.inr ⟨(hw _ (List.mem_of_getElem? (i := 2) rfl)), (hw _ (List.mem_of_getElem? (i := 21) rfl))⟩)
  obtain ⟨w_NOT_WORD_BOUNDARY, ev_NOT_WORD_BOUNDARY⟩ := exa_v g10a
  have E_w_NOT_WORD_BOUNDARY : Exa s s.heap w_NOT_WORD_BOUNDARY "com/example/termwell/termwell/core/text/RegexNode$Anchor" := Exa.start ev_NOT_WORD_BOUNDARY g10a
  have S_NOT_WORD_BOUNDARY : Sta s s.heap "com/example/termwell/termwell/core/text/RegexNode$Anchor" "NOT_WORD_BOUNDARY" "Lcom/example/termwell/termwell/core/text/RegexNode$Anchor;" (.ref w_NOT_WORD_BOUNDARY) := Sta.start ev_NOT_WORD_BOUNDARY (Or.inr ⟨(hw _ (List.mem_of_getElem? (i := 2) rfl)), (hw _ (List.mem_of_getElem? (i := 23) rfl))⟩)
  obtain ⟨w_LINE_END, ev_LINE_END⟩ := exa_v g12a
  have E_w_LINE_END : Exa s s.heap w_LINE_END "com/example/termwell/termwell/core/text/RegexNode$Anchor" := Exa.start ev_LINE_END g12a
  have S_LINE_END : Sta s s.heap "com/example/termwell/termwell/core/text/RegexNode$Anchor" "LINE_END" "Lcom/example/termwell/termwell/core/text/RegexNode$Anchor;" (.ref w_LINE_END) := Sta.start ev_LINE_END (Or.inr ⟨(hw _ (List.mem_of_getElem? (i := 2) rfl)), (hw _ (List.mem_of_getElem? (i := 26) rfl))⟩)
  obtain ⟨w_WORD_BOUNDARY, ev_WORD_BOUNDARY⟩ := exa_v g14a
  have E_w_WORD_BOUNDARY : Exa s s.heap w_WORD_BOUNDARY "com/example/termwell/termwell/core/text/RegexNode$Anchor" := Exa.start ev_WORD_BOUNDARY g14a
  have S_WORD_BOUNDARY : Sta s s.heap "com/example/termwell/termwell/core/text/RegexNode$Anchor" "WORD_BOUNDARY" "Lcom/example/termwell/termwell/core/text/RegexNode$Anchor;" (.ref w_WORD_BOUNDARY) := Sta.start ev_WORD_BOUNDARY (Or.inr ⟨(hw _ (List.mem_of_getElem? (i := 2) rfl)), (hw _ (List.mem_of_getElem? (i := 28) rfl))⟩)
  have F_ordinal_w_TEXT_START : Fld s s.heap w_TEXT_START "java/lang/Enum" "ordinal" "I" (.int (0 : Int32)) := own_fld ev_TEXT_START g5a
  have F_ordinal_w_TEXT_END : Fld s s.heap w_TEXT_END "java/lang/Enum" "ordinal" "I" (.int (1 : Int32)) := own_fld ev_TEXT_END g7a
  have F_ordinal_w_LINE_START : Fld s s.heap w_LINE_START "java/lang/Enum" "ordinal" "I" (.int (2 : Int32)) := own_fld ev_LINE_START g9a
  have F_ordinal_w_NOT_WORD_BOUNDARY : Fld s s.heap w_NOT_WORD_BOUNDARY "java/lang/Enum" "ordinal" "I" (.int (5 : Int32)) := own_fld ev_NOT_WORD_BOUNDARY g11a
  have F_ordinal_w_LINE_END : Fld s s.heap w_LINE_END "java/lang/Enum" "ordinal" "I" (.int (3 : Int32)) := own_fld ev_LINE_END g13a
  have F_ordinal_w_WORD_BOUNDARY : Fld s s.heap w_WORD_BOUNDARY "java/lang/Enum" "ordinal" "I" (.int (4 : Int32)) := own_fld ev_WORD_BOUNDARY g14b
  have hm : (i0 &&& (2147483647 : Int32)).toInt = i0.toInt % (2 ^ 31 : Nat) := c_mask i0 2147483647 31 (by decide) (by decide)
  have hr : ((i0 &&& (2147483647 : Int32)) % (6 : Int32)).toInt = (i0 &&& (2147483647 : Int32)).toInt % 6 := (c_irem _ (6 : Int32) 6 (by decide)).1 (by omega)
  have hbm : (i1 &&& (3 : Int32)).toInt = i1.toInt % (2 ^ 2 : Nat) := c_mask i1 3 2 (by decide) (by decide)
  have ham : (i2 &&& (3 : Int32)).toInt = i2.toInt % (2 ^ 2 : Nat) := c_mask i2 3 2 (by decide) (by decide)
  obtain ⟨b, hb0⟩ : ∃ b, (i1 &&& (3 : Int32)) = b := ⟨_, rfl⟩
  obtain ⟨a, ha0⟩ : ∃ a, (i2 &&& (3 : Int32)) = a := ⟨_, rfl⟩
  rw [hb0] at hbm
  rw [ha0] at ham
  rcases own_split6 (x := ((i0 &&& (2147483647 : Int32)) % (6 : Int32))) (by omega) (by omega) with hk0 | hk0 | hk0 | hk0 | hk0 | hk0
  · rcases own_split4 (x := b) (by omega) (by omega) with rfl | rfl | rfl | rfl
    · rcases own_split4 (x := a) (by omega) (by omega) with rfl | rfl | rfl | rfl
      · obtain ⟨n, o, h1, h2, h3, _, L, rfl, ⟨rfl, N, -⟩, hq⟩ := rm0_k0f l s _ hw tables_1 i0 i1 i2 (0 : Int32) (0 : Int32) w_TEXT_START s.heap s.heap.size (Nat.le_refl _) hk0 hb0 ha0 S_TEXT_START (by decide) F_ordinal_w_TEXT_START E_w_TEXT_START (by decide) p e ha hc hk s m _ below hf ((Spec.applies_iff_loose hf).mp happ).1 ⟨rfl, State.Warmed39.refl s, rfl⟩ trivial
        exact ⟨n, _, h1, h2, h3, hpost _ _ _ _ _ _ ⟨Cond.after_iff.mpr rfl, Cond.after_iff.mpr (eq_i res_at (Term.int_eval (1)) rfl), trivial⟩ ⟨hq.1, hq.2.1, (hq.2.2.sift fun y hy => Or.inr (N y hy)).mono (by decide) (by decide)⟩⟩
      · obtain ⟨n, o, h1, h2, h3, _, L, rfl, ⟨rfl, N, -⟩, hq⟩ := rm0_k0f l s _ hw tables_1 i0 i1 i2 (0 : Int32) (1 : Int32) w_TEXT_START s.heap s.heap.size (Nat.le_refl _) hk0 hb0 ha0 S_TEXT_START (by decide) F_ordinal_w_TEXT_START E_w_TEXT_START (by decide) p e ha hc hk s m _ below hf ((Spec.applies_iff_loose hf).mp happ).1 ⟨rfl, State.Warmed39.refl s, rfl⟩ trivial
        exact ⟨n, _, h1, h2, h3, hpost _ _ _ _ _ _ ⟨Cond.after_iff.mpr rfl, Cond.after_iff.mpr (eq_i res_at (Term.int_eval (1)) rfl), trivial⟩ ⟨hq.1, hq.2.1, (hq.2.2.sift fun y hy => Or.inr (N y hy)).mono (by decide) (by decide)⟩⟩
      · obtain ⟨n, o, h1, h2, h3, _, L, rfl, ⟨rfl, N, -⟩, hq⟩ := rm0_k0f l s _ hw tables_1 i0 i1 i2 (0 : Int32) (2 : Int32) w_TEXT_START s.heap s.heap.size (Nat.le_refl _) hk0 hb0 ha0 S_TEXT_START (by decide) F_ordinal_w_TEXT_START E_w_TEXT_START (by decide) p e ha hc hk s m _ below hf ((Spec.applies_iff_loose hf).mp happ).1 ⟨rfl, State.Warmed39.refl s, rfl⟩ trivial
        exact ⟨n, _, h1, h2, h3, hpost _ _ _ _ _ _ ⟨Cond.after_iff.mpr rfl, Cond.after_iff.mpr (eq_i res_at (Term.int_eval (1)) rfl), trivial⟩ ⟨hq.1, hq.2.1, (hq.2.2.sift fun y hy => Or.inr (N y hy)).mono (by decide) (by decide)⟩⟩
      · obtain ⟨n, o, h1, h2, h3, _, L, rfl, ⟨rfl, N, -⟩, hq⟩ := rm0_k0f l s _ hw tables_1 i0 i1 i2 (0 : Int32) (3 : Int32) w_TEXT_START s.heap s.heap.size (Nat.le_refl _) hk0 hb0 ha0 S_TEXT_START (by decide) F_ordinal_w_TEXT_START E_w_TEXT_START (by decide) p e ha hc hk s m _ below hf ((Spec.applies_iff_loose hf).mp happ).1 ⟨rfl, State.Warmed39.refl s, rfl⟩ trivial
        exact ⟨n, _, h1, h2, h3, hpost _ _ _ _ _ _ ⟨Cond.after_iff.mpr rfl, Cond.after_iff.mpr (eq_i res_at (Term.int_eval (1)) rfl), trivial⟩ ⟨hq.1, hq.2.1, (hq.2.2.sift fun y hy => Or.inr (N y hy)).mono (by decide) (by decide)⟩⟩
    · rcases own_split4 (x := a) (by omega) (by omega) with rfl | rfl | rfl | rfl
      · obtain ⟨n, o, h1, h2, h3, _, L, rfl, ⟨rfl, N, -⟩, hq⟩ := rm0_k0t l s _ hw tables_1 i0 i1 i2 (1 : Int32) (0 : Int32) w_TEXT_START s.heap s.heap.size (Nat.le_refl _) hk0 hb0 ha0 S_TEXT_START (by decide) F_ordinal_w_TEXT_START E_w_TEXT_START (by decide) p e ha hc hk s m _ below hf ((Spec.applies_iff_loose hf).mp happ).1 ⟨rfl, State.Warmed39.refl s, rfl⟩ trivial
        exact ⟨n, _, h1, h2, h3, hpost _ _ _ _ _ _ ⟨Cond.after_iff.mpr rfl, Cond.after_iff.mpr (eq_i res_at (Term.int_eval (1)) rfl), trivial⟩ ⟨hq.1, hq.2.1, (hq.2.2.sift fun y hy => Or.inr (N y hy)).mono (by decide) (by decide)⟩⟩
      · obtain ⟨n, o, h1, h2, h3, _, L, rfl, ⟨rfl, N, -⟩, hq⟩ := rm0_k0t l s _ hw tables_1 i0 i1 i2 (1 : Int32) (1 : Int32) w_TEXT_START s.heap s.heap.size (Nat.le_refl _) hk0 hb0 ha0 S_TEXT_START (by decide) F_ordinal_w_TEXT_START E_w_TEXT_START (by decide) p e ha hc hk s m _ below hf ((Spec.applies_iff_loose hf).mp happ).1 ⟨rfl, State.Warmed39.refl s, rfl⟩ trivial
        exact ⟨n, _, h1, h2, h3, hpost _ _ _ _ _ _ ⟨Cond.after_iff.mpr rfl, Cond.after_iff.mpr (eq_i res_at (Term.int_eval (1)) rfl), trivial⟩ ⟨hq.1, hq.2.1, (hq.2.2.sift fun y hy => Or.inr (N y hy)).mono (by decide) (by decide)⟩⟩
      · obtain ⟨n, o, h1, h2, h3, _, L, rfl, ⟨rfl, N, -⟩, hq⟩ := rm0_k0t l s _ hw tables_1 i0 i1 i2 (1 : Int32) (2 : Int32) w_TEXT_START s.heap s.heap.size (Nat.le_refl _) hk0 hb0 ha0 S_TEXT_START (by decide) F_ordinal_w_TEXT_START E_w_TEXT_START (by decide) p e ha hc hk s m _ below hf ((Spec.applies_iff_loose hf).mp happ).1 ⟨rfl, State.Warmed39.refl s, rfl⟩ trivial
        exact ⟨n, _, h1, h2, h3, hpost _ _ _ _ _ _ ⟨Cond.after_iff.mpr rfl, Cond.after_iff.mpr (eq_i res_at (Term.int_eval (1)) rfl), trivial⟩ ⟨hq.1, hq.2.1, (hq.2.2.sift fun y hy => Or.inr (N y hy)).mono (by decide) (by decide)⟩⟩
      · obtain ⟨n, o, h1, h2, h3, _, L, rfl, ⟨rfl, N, -⟩, hq⟩ := rm0_k0t l s _ hw tables_1 i0 i1 i2 (1 : Int32) (3 : Int32) w_TEXT_START s.heap s.heap.size (Nat.le_refl _) hk0 hb0 ha0 S_TEXT_START (by decide) F_ordinal_w_TEXT_START E_w_TEXT_START (by decide) p e ha hc hk s m _ below hf ((Spec.applies_iff_loose hf).mp happ).1 ⟨rfl, State.Warmed39.refl s, rfl⟩ trivial
        exact ⟨n, _, h1, h2, h3, hpost _ _ _ _ _ _ ⟨Cond.after_iff.mpr rfl, Cond.after_iff.mpr (eq_i res_at (Term.int_eval (1)) rfl), trivial⟩ ⟨hq.1, hq.2.1, (hq.2.2.sift fun y hy => Or.inr (N y hy)).mono (by decide) (by decide)⟩⟩
    · rcases own_split4 (x := a) (by omega) (by omega) with rfl | rfl | rfl | rfl
      · obtain ⟨n, o, h1, h2, h3, _, L, rfl, ⟨rfl, N, -⟩, hq⟩ := rm0_k0t l s _ hw tables_1 i0 i1 i2 (2 : Int32) (0 : Int32) w_TEXT_START s.heap s.heap.size (Nat.le_refl _) hk0 hb0 ha0 S_TEXT_START (by decide) F_ordinal_w_TEXT_START E_w_TEXT_START (by decide) p e ha hc hk s m _ below hf ((Spec.applies_iff_loose hf).mp happ).1 ⟨rfl, State.Warmed39.refl s, rfl⟩ trivial
        exact ⟨n, _, h1, h2, h3, hpost _ _ _ _ _ _ ⟨Cond.after_iff.mpr rfl, Cond.after_iff.mpr (eq_i res_at (Term.int_eval (1)) rfl), trivial⟩ ⟨hq.1, hq.2.1, (hq.2.2.sift fun y hy => Or.inr (N y hy)).mono (by decide) (by decide)⟩⟩
      · obtain ⟨n, o, h1, h2, h3, _, L, rfl, ⟨rfl, N, -⟩, hq⟩ := rm0_k0t l s _ hw tables_1 i0 i1 i2 (2 : Int32) (1 : Int32) w_TEXT_START s.heap s.heap.size (Nat.le_refl _) hk0 hb0 ha0 S_TEXT_START (by decide) F_ordinal_w_TEXT_START E_w_TEXT_START (by decide) p e ha hc hk s m _ below hf ((Spec.applies_iff_loose hf).mp happ).1 ⟨rfl, State.Warmed39.refl s, rfl⟩ trivial
        exact ⟨n, _, h1, h2, h3, hpost _ _ _ _ _ _ ⟨Cond.after_iff.mpr rfl, Cond.after_iff.mpr (eq_i res_at (Term.int_eval (1)) rfl), trivial⟩ ⟨hq.1, hq.2.1, (hq.2.2.sift fun y hy => Or.inr (N y hy)).mono (by decide) (by decide)⟩⟩
      · obtain ⟨n, o, h1, h2, h3, _, L, rfl, ⟨rfl, N, -⟩, hq⟩ := rm0_k0t l s _ hw tables_1 i0 i1 i2 (2 : Int32) (2 : Int32) w_TEXT_START s.heap s.heap.size (Nat.le_refl _) hk0 hb0 ha0 S_TEXT_START (by decide) F_ordinal_w_TEXT_START E_w_TEXT_START (by decide) p e ha hc hk s m _ below hf ((Spec.applies_iff_loose hf).mp happ).1 ⟨rfl, State.Warmed39.refl s, rfl⟩ trivial
        exact ⟨n, _, h1, h2, h3, hpost _ _ _ _ _ _ ⟨Cond.after_iff.mpr rfl, Cond.after_iff.mpr (eq_i res_at (Term.int_eval (1)) rfl), trivial⟩ ⟨hq.1, hq.2.1, (hq.2.2.sift fun y hy => Or.inr (N y hy)).mono (by decide) (by decide)⟩⟩
      · obtain ⟨n, o, h1, h2, h3, _, L, rfl, ⟨rfl, N, -⟩, hq⟩ := rm0_k0t l s _ hw tables_1 i0 i1 i2 (2 : Int32) (3 : Int32) w_TEXT_START s.heap s.heap.size (Nat.le_refl _) hk0 hb0 ha0 S_TEXT_START (by decide) F_ordinal_w_TEXT_START E_w_TEXT_START (by decide) p e ha hc hk s m _ below hf ((Spec.applies_iff_loose hf).mp happ).1 ⟨rfl, State.Warmed39.refl s, rfl⟩ trivial
        exact ⟨n, _, h1, h2, h3, hpost _ _ _ _ _ _ ⟨Cond.after_iff.mpr rfl, Cond.after_iff.mpr (eq_i res_at (Term.int_eval (1)) rfl), trivial⟩ ⟨hq.1, hq.2.1, (hq.2.2.sift fun y hy => Or.inr (N y hy)).mono (by decide) (by decide)⟩⟩
    · rcases own_split4 (x := a) (by omega) (by omega) with rfl | rfl | rfl | rfl
      · obtain ⟨n, o, h1, h2, h3, _, L, rfl, ⟨rfl, N, -⟩, hq⟩ := rm0_k0t l s _ hw tables_1 i0 i1 i2 (3 : Int32) (0 : Int32) w_TEXT_START s.heap s.heap.size (Nat.le_refl _) hk0 hb0 ha0 S_TEXT_START (by decide) F_ordinal_w_TEXT_START E_w_TEXT_START (by decide) p e ha hc hk s m _ below hf ((Spec.applies_iff_loose hf).mp happ).1 ⟨rfl, State.Warmed39.refl s, rfl⟩ trivial
        exact ⟨n, _, h1, h2, h3, hpost _ _ _ _ _ _ ⟨Cond.after_iff.mpr rfl, Cond.after_iff.mpr (eq_i res_at (Term.int_eval (1)) rfl), trivial⟩ ⟨hq.1, hq.2.1, (hq.2.2.sift fun y hy => Or.inr (N y hy)).mono (by decide) (by decide)⟩⟩
      · obtain ⟨n, o, h1, h2, h3, _, L, rfl, ⟨rfl, N, -⟩, hq⟩ := rm0_k0t l s _ hw tables_1 i0 i1 i2 (3 : Int32) (1 : Int32) w_TEXT_START s.heap s.heap.size (Nat.le_refl _) hk0 hb0 ha0 S_TEXT_START (by decide) F_ordinal_w_TEXT_START E_w_TEXT_START (by decide) p e ha hc hk s m _ below hf ((Spec.applies_iff_loose hf).mp happ).1 ⟨rfl, State.Warmed39.refl s, rfl⟩ trivial
        exact ⟨n, _, h1, h2, h3, hpost _ _ _ _ _ _ ⟨Cond.after_iff.mpr rfl, Cond.after_iff.mpr (eq_i res_at (Term.int_eval (1)) rfl), trivial⟩ ⟨hq.1, hq.2.1, (hq.2.2.sift fun y hy => Or.inr (N y hy)).mono (by decide) (by decide)⟩⟩
      · obtain ⟨n, o, h1, h2, h3, _, L, rfl, ⟨rfl, N, -⟩, hq⟩ := rm0_k0t l s _ hw tables_1 i0 i1 i2 (3 : Int32) (2 : Int32) w_TEXT_START s.heap s.heap.size (Nat.le_refl _) hk0 hb0 ha0 S_TEXT_START (by decide) F_ordinal_w_TEXT_START E_w_TEXT_START (by decide) p e ha hc hk s m _ below hf ((Spec.applies_iff_loose hf).mp happ).1 ⟨rfl, State.Warmed39.refl s, rfl⟩ trivial
        exact ⟨n, _, h1, h2, h3, hpost _ _ _ _ _ _ ⟨Cond.after_iff.mpr rfl, Cond.after_iff.mpr (eq_i res_at (Term.int_eval (1)) rfl), trivial⟩ ⟨hq.1, hq.2.1, (hq.2.2.sift fun y hy => Or.inr (N y hy)).mono (by decide) (by decide)⟩⟩
      · obtain ⟨n, o, h1, h2, h3, _, L, rfl, ⟨rfl, N, -⟩, hq⟩ := rm0_k0t l s _ hw tables_1 i0 i1 i2 (3 : Int32) (3 : Int32) w_TEXT_START s.heap s.heap.size (Nat.le_refl _) hk0 hb0 ha0 S_TEXT_START (by decide) F_ordinal_w_TEXT_START E_w_TEXT_START (by decide) p e ha hc hk s m _ below hf ((Spec.applies_iff_loose hf).mp happ).1 ⟨rfl, State.Warmed39.refl s, rfl⟩ trivial
        exact ⟨n, _, h1, h2, h3, hpost _ _ _ _ _ _ ⟨Cond.after_iff.mpr rfl, Cond.after_iff.mpr (eq_i res_at (Term.int_eval (1)) rfl), trivial⟩ ⟨hq.1, hq.2.1, (hq.2.2.sift fun y hy => Or.inr (N y hy)).mono (by decide) (by decide)⟩⟩
  · rcases own_split4 (x := b) (by omega) (by omega) with rfl | rfl | rfl | rfl
    · rcases own_split4 (x := a) (by omega) (by omega) with rfl | rfl | rfl | rfl
      · obtain ⟨n, o, h1, h2, h3, _, L, rfl, ⟨rfl, N, -⟩, hq⟩ := rm0_k1f l s _ hw tables_1 i0 i1 i2 (0 : Int32) (0 : Int32) w_TEXT_END s.heap s.heap.size (Nat.le_refl _) hk0 hb0 ha0 S_TEXT_END (by decide) F_ordinal_w_TEXT_END E_w_TEXT_END (by decide) p e ha hc hk s m _ below hf ((Spec.applies_iff_loose hf).mp happ).1 ⟨rfl, State.Warmed39.refl s, rfl⟩ trivial
        exact ⟨n, _, h1, h2, h3, hpost _ _ _ _ _ _ ⟨Cond.after_iff.mpr rfl, Cond.after_iff.mpr (eq_i res_at (Term.int_eval (1)) rfl), trivial⟩ ⟨hq.1, hq.2.1, (hq.2.2.sift fun y hy => Or.inr (N y hy)).mono (by decide) (by decide)⟩⟩
      · obtain ⟨n, o, h1, h2, h3, _, L, rfl, ⟨rfl, N, -⟩, hq⟩ := rm0_k1t l s _ hw tables_1 i0 i1 i2 (0 : Int32) (1 : Int32) w_TEXT_END s.heap s.heap.size (Nat.le_refl _) hk0 hb0 ha0 S_TEXT_END (by decide) F_ordinal_w_TEXT_END E_w_TEXT_END (by decide) p e ha hc hk s m _ below hf ((Spec.applies_iff_loose hf).mp happ).1 ⟨rfl, State.Warmed39.refl s, rfl⟩ trivial
        exact ⟨n, _, h1, h2, h3, hpost _ _ _ _ _ _ ⟨Cond.after_iff.mpr rfl, Cond.after_iff.mpr (eq_i res_at (Term.int_eval (1)) rfl), trivial⟩ ⟨hq.1, hq.2.1, (hq.2.2.sift fun y hy => Or.inr (N y hy)).mono (by decide) (by decide)⟩⟩
      · obtain ⟨n, o, h1, h2, h3, _, L, rfl, ⟨rfl, N, -⟩, hq⟩ := rm0_k1t l s _ hw tables_1 i0 i1 i2 (0 : Int32) (2 : Int32) w_TEXT_END s.heap s.heap.size (Nat.le_refl _) hk0 hb0 ha0 S_TEXT_END (by decide) F_ordinal_w_TEXT_END E_w_TEXT_END (by decide) p e ha hc hk s m _ below hf ((Spec.applies_iff_loose hf).mp happ).1 ⟨rfl, State.Warmed39.refl s, rfl⟩ trivial
        exact ⟨n, _, h1, h2, h3, hpost _ _ _ _ _ _ ⟨Cond.after_iff.mpr rfl, Cond.after_iff.mpr (eq_i res_at (Term.int_eval (1)) rfl), trivial⟩ ⟨hq.1, hq.2.1, (hq.2.2.sift fun y hy => Or.inr (N y hy)).mono (by decide) (by decide)⟩⟩
      · obtain ⟨n, o, h1, h2, h3, _, L, rfl, ⟨rfl, N, -⟩, hq⟩ := rm0_k1t l s _ hw tables_1 i0 i1 i2 (0 : Int32) (3 : Int32) w_TEXT_END s.heap s.heap.size (Nat.le_refl _) hk0 hb0 ha0 S_TEXT_END (by decide) F_ordinal_w_TEXT_END E_w_TEXT_END (by decide) p e ha hc hk s m _ below hf ((Spec.applies_iff_loose hf).mp happ).1 ⟨rfl, State.Warmed39.refl s, rfl⟩ trivial
        exact ⟨n, _, h1, h2, h3, hpost _ _ _ _ _ _ ⟨Cond.after_iff.mpr rfl, Cond.after_iff.mpr (eq_i res_at (Term.int_eval (1)) rfl), trivial⟩ ⟨hq.1, hq.2.1, (hq.2.2.sift fun y hy => Or.inr (N y hy)).mono (by decide) (by decide)⟩⟩
    · rcases own_split4 (x := a) (by omega) (by omega) with rfl | rfl | rfl | rfl
      · obtain ⟨n, o, h1, h2, h3, _, L, rfl, ⟨rfl, N, -⟩, hq⟩ := rm0_k1f l s _ hw tables_1 i0 i1 i2 (1 : Int32) (0 : Int32) w_TEXT_END s.heap s.heap.size (Nat.le_refl _) hk0 hb0 ha0 S_TEXT_END (by decide) F_ordinal_w_TEXT_END E_w_TEXT_END (by decide) p e ha hc hk s m _ below hf ((Spec.applies_iff_loose hf).mp happ).1 ⟨rfl, State.Warmed39.refl s, rfl⟩ trivial
        exact ⟨n, _, h1, h2, h3, hpost _ _ _ _ _ _ ⟨Cond.after_iff.mpr rfl, Cond.after_iff.mpr (eq_i res_at (Term.int_eval (1)) rfl), trivial⟩ ⟨hq.1, hq.2.1, (hq.2.2.sift fun y hy => Or.inr (N y hy)).mono (by decide) (by decide)⟩⟩
      · obtain ⟨n, o, h1, h2, h3, _, L, rfl, ⟨rfl, N, -⟩, hq⟩ := rm0_k1t l s _ hw tables_1 i0 i1 i2 (1 : Int32) (1 : Int32) w_TEXT_END s.heap s.heap.size (Nat.le_refl _) hk0 hb0 ha0 S_TEXT_END (by decide) F_ordinal_w_TEXT_END E_w_TEXT_END (by decide) p e ha hc hk s m _ below hf ((Spec.applies_iff_loose hf).mp happ).1 ⟨rfl, State.Warmed39.refl s, rfl⟩ trivial
        exact ⟨n, _, h1, h2, h3, hpost _ _ _ _ _ _ ⟨Cond.after_iff.mpr rfl, Cond.after_iff.mpr (eq_i res_at (Term.int_eval (1)) rfl), trivial⟩ ⟨hq.1, hq.2.1, (hq.2.2.sift fun y hy => Or.inr (N y hy)).mono (by decide) (by decide)⟩⟩
      · obtain ⟨n, o, h1, h2, h3, _, L, rfl, ⟨rfl, N, -⟩, hq⟩ := rm0_k1t l s _ hw tables_1 i0 i1 i2 (1 : Int32) (2 : Int32) w_TEXT_END s.heap s.heap.size (Nat.le_refl _) hk0 hb0 ha0 S_TEXT_END (by decide) F_ordinal_w_TEXT_END E_w_TEXT_END (by decide) p e ha hc hk s m _ below hf ((Spec.applies_iff_loose hf).mp happ).1 ⟨rfl, State.Warmed39.refl s, rfl⟩ trivial
        exact ⟨n, _, h1, h2, h3, hpost _ _ _ _ _ _ ⟨Cond.after_iff.mpr rfl, Cond.after_iff.mpr (eq_i res_at (Term.int_eval (1)) rfl), trivial⟩ ⟨hq.1, hq.2.1, (hq.2.2.sift fun y hy => Or.inr (N y hy)).mono (by decide) (by decide)⟩⟩
      · obtain ⟨n, o, h1, h2, h3, _, L, rfl, ⟨rfl, N, -⟩, hq⟩ := rm0_k1t l s _ hw tables_1 i0 i1 i2 (1 : Int32) (3 : Int32) w_TEXT_END s.heap s.heap.size (Nat.le_refl _) hk0 hb0 ha0 S_TEXT_END (by decide) F_ordinal_w_TEXT_END E_w_TEXT_END (by decide) p e ha hc hk s m _ below hf ((Spec.applies_iff_loose hf).mp happ).1 ⟨rfl, State.Warmed39.refl s, rfl⟩ trivial
        exact ⟨n, _, h1, h2, h3, hpost _ _ _ _ _ _ ⟨Cond.after_iff.mpr rfl, Cond.after_iff.mpr (eq_i res_at (Term.int_eval (1)) rfl), trivial⟩ ⟨hq.1, hq.2.1, (hq.2.2.sift fun y hy => Or.inr (N y hy)).mono (by decide) (by decide)⟩⟩
    · rcases own_split4 (x := a) (by omega) (by omega) with rfl | rfl | rfl | rfl
      · obtain ⟨n, o, h1, h2, h3, _, L, rfl, ⟨rfl, N, -⟩, hq⟩ := rm0_k1f l s _ hw tables_1 i0 i1 i2 (2 : Int32) (0 : Int32) w_TEXT_END s.heap s.heap.size (Nat.le_refl _) hk0 hb0 ha0 S_TEXT_END (by decide) F_ordinal_w_TEXT_END E_w_TEXT_END (by decide) p e ha hc hk s m _ below hf ((Spec.applies_iff_loose hf).mp happ).1 ⟨rfl, State.Warmed39.refl s, rfl⟩ trivial
        exact ⟨n, _, h1, h2, h3, hpost _ _ _ _ _ _ ⟨Cond.after_iff.mpr rfl, Cond.after_iff.mpr (eq_i res_at (Term.int_eval (1)) rfl), trivial⟩ ⟨hq.1, hq.2.1, (hq.2.2.sift fun y hy => Or.inr (N y hy)).mono (by decide) (by decide)⟩⟩
      · obtain ⟨n, o, h1, h2, h3, _, L, rfl, ⟨rfl, N, -⟩, hq⟩ := rm0_k1t l s _ hw tables_1 i0 i1 i2 (2 : Int32) (1 : Int32) w_TEXT_END s.heap s.heap.size (Nat.le_refl _) hk0 hb0 ha0 S_TEXT_END (by decide) F_ordinal_w_TEXT_END E_w_TEXT_END (by decide) p e ha hc hk s m _ below hf ((Spec.applies_iff_loose hf).mp happ).1 ⟨rfl, State.Warmed39.refl s, rfl⟩ trivial
        exact ⟨n, _, h1, h2, h3, hpost _ _ _ _ _ _ ⟨Cond.after_iff.mpr rfl, Cond.after_iff.mpr (eq_i res_at (Term.int_eval (1)) rfl), trivial⟩ ⟨hq.1, hq.2.1, (hq.2.2.sift fun y hy => Or.inr (N y hy)).mono (by decide) (by decide)⟩⟩
      · obtain ⟨n, o, h1, h2, h3, _, L, rfl, ⟨rfl, N, -⟩, hq⟩ := rm0_k1t l s _ hw tables_1 i0 i1 i2 (2 : Int32) (2 : Int32) w_TEXT_END s.heap s.heap.size (Nat.le_refl _) hk0 hb0 ha0 S_TEXT_END (by decide) F_ordinal_w_TEXT_END E_w_TEXT_END (by decide) p e ha hc hk s m _ below hf ((Spec.applies_iff_loose hf).mp happ).1 ⟨rfl, State.Warmed39.refl s, rfl⟩ trivial
        exact ⟨n, _, h1, h2, h3, hpost _ _ _ _ _ _ ⟨Cond.after_iff.mpr rfl, Cond.after_iff.mpr (eq_i res_at (Term.int_eval (1)) rfl), trivial⟩ ⟨hq.1, hq.2.1, (hq.2.2.sift fun y hy => Or.inr (N y hy)).mono (by decide) (by decide)⟩⟩
      · obtain ⟨n, o, h1, h2, h3, _, L, rfl, ⟨rfl, N, -⟩, hq⟩ := rm0_k1t l s _ hw tables_1 i0 i1 i2 (2 : Int32) (3 : Int32) w_TEXT_END s.heap s.heap.size (Nat.le_refl _) hk0 hb0 ha0 S_TEXT_END (by decide) F_ordinal_w_TEXT_END E_w_TEXT_END (by decide) p e ha hc hk s m _ below hf ((Spec.applies_iff_loose hf).mp happ).1 ⟨rfl, State.Warmed39.refl s, rfl⟩ trivial
        exact ⟨n, _, h1, h2, h3, hpost _ _ _ _ _ _ ⟨Cond.after_iff.mpr rfl, Cond.after_iff.mpr (eq_i res_at (Term.int_eval (1)) rfl), trivial⟩ ⟨hq.1, hq.2.1, (hq.2.2.sift fun y hy => Or.inr (N y hy)).mono (by decide) (by decide)⟩⟩
    · rcases own_split4 (x := a) (by omega) (by omega) with rfl | rfl | rfl | rfl
      · obtain ⟨n, o, h1, h2, h3, _, L, rfl, ⟨rfl, N, -⟩, hq⟩ := rm0_k1f l s _ hw tables_1 i0 i1 i2 (3 : Int32) (0 : Int32) w_TEXT_END s.heap s.heap.size (Nat.le_refl _) hk0 hb0 ha0 S_TEXT_END (by decide) F_ordinal_w_TEXT_END E_w_TEXT_END (by decide) p e ha hc hk s m _ below hf ((Spec.applies_iff_loose hf).mp happ).1 ⟨rfl, State.Warmed39.refl s, rfl⟩ trivial
        exact ⟨n, _, h1, h2, h3, hpost _ _ _ _ _ _ ⟨Cond.after_iff.mpr rfl, Cond.after_iff.mpr (eq_i res_at (Term.int_eval (1)) rfl), trivial⟩ ⟨hq.1, hq.2.1, (hq.2.2.sift fun y hy => Or.inr (N y hy)).mono (by decide) (by decide)⟩⟩
      · obtain ⟨n, o, h1, h2, h3, _, L, rfl, ⟨rfl, N, -⟩, hq⟩ := rm0_k1t l s _ hw tables_1 i0 i1 i2 (3 : Int32) (1 : Int32) w_TEXT_END s.heap s.heap.size (Nat.le_refl _) hk0 hb0 ha0 S_TEXT_END (by decide) F_ordinal_w_TEXT_END E_w_TEXT_END (by decide) p e ha hc hk s m _ below hf ((Spec.applies_iff_loose hf).mp happ).1 ⟨rfl, State.Warmed39.refl s, rfl⟩ trivial
        exact ⟨n, _, h1, h2, h3, hpost _ _ _ _ _ _ ⟨Cond.after_iff.mpr rfl, Cond.after_iff.mpr (eq_i res_at (Term.int_eval (1)) rfl), trivial⟩ ⟨hq.1, hq.2.1, (hq.2.2.sift fun y hy => Or.inr (N y hy)).mono (by decide) (by decide)⟩⟩
      · obtain ⟨n, o, h1, h2, h3, _, L, rfl, ⟨rfl, N, -⟩, hq⟩ := rm0_k1t l s _ hw tables_1 i0 i1 i2 (3 : Int32) (2 : Int32) w_TEXT_END s.heap s.heap.size (Nat.le_refl _) hk0 hb0 ha0 S_TEXT_END (by decide) F_ordinal_w_TEXT_END E_w_TEXT_END (by decide) p e ha hc hk s m _ below hf ((Spec.applies_iff_loose hf).mp happ).1 ⟨rfl, State.Warmed39.refl s, rfl⟩ trivial
        exact ⟨n, _, h1, h2, h3, hpost _ _ _ _ _ _ ⟨Cond.after_iff.mpr rfl, Cond.after_iff.mpr (eq_i res_at (Term.int_eval (1)) rfl), trivial⟩ ⟨hq.1, hq.2.1, (hq.2.2.sift fun y hy => Or.inr (N y hy)).mono (by decide) (by decide)⟩⟩
      · obtain ⟨n, o, h1, h2, h3, _, L, rfl, ⟨rfl, N, -⟩, hq⟩ := rm0_k1t l s _ hw tables_1 i0 i1 i2 (3 : Int32) (3 : Int32) w_TEXT_END s.heap s.heap.size (Nat.le_refl _) hk0 hb0 ha0 S_TEXT_END (by decide) F_ordinal_w_TEXT_END E_w_TEXT_END (by decide) p e ha hc hk s m _ below hf ((Spec.applies_iff_loose hf).mp happ).1 ⟨rfl, State.Warmed39.refl s, rfl⟩ trivial
        exact ⟨n, _, h1, h2, h3, hpost _ _ _ _ _ _ ⟨Cond.after_iff.mpr rfl, Cond.after_iff.mpr (eq_i res_at (Term.int_eval (1)) rfl), trivial⟩ ⟨hq.1, hq.2.1, (hq.2.2.sift fun y hy => Or.inr (N y hy)).mono (by decide) (by decide)⟩⟩
  · rcases own_split4 (x := b) (by omega) (by omega) with rfl | rfl | rfl | rfl
    · rcases own_split4 (x := a) (by omega) (by omega) with rfl | rfl | rfl | rfl
      · obtain ⟨n, o, h1, h2, h3, _, L, rfl, ⟨rfl, N, -⟩, hq⟩ := rm0_k2t l s _ hw tables_1 i0 i1 i2 (0 : Int32) (0 : Int32) w_LINE_START s.heap s.heap.size (Nat.le_refl _) hk0 hb0 ha0 S_LINE_START (by decide) F_ordinal_w_LINE_START E_w_LINE_START (by decide) p e ha hc hk s m _ below hf ((Spec.applies_iff_loose hf).mp happ).1 ⟨rfl, State.Warmed39.refl s, rfl⟩ trivial
        exact ⟨n, _, h1, h2, h3, hpost _ _ _ _ _ _ ⟨Cond.after_iff.mpr rfl, Cond.after_iff.mpr (eq_i res_at (Term.int_eval (1)) rfl), trivial⟩ ⟨hq.1, hq.2.1, (hq.2.2.sift fun y hy => Or.inr (N y hy)).mono (by decide) (by decide)⟩⟩
      · obtain ⟨n, o, h1, h2, h3, _, L, rfl, ⟨rfl, N, -⟩, hq⟩ := rm0_k2t l s _ hw tables_1 i0 i1 i2 (0 : Int32) (1 : Int32) w_LINE_START s.heap s.heap.size (Nat.le_refl _) hk0 hb0 ha0 S_LINE_START (by decide) F_ordinal_w_LINE_START E_w_LINE_START (by decide) p e ha hc hk s m _ below hf ((Spec.applies_iff_loose hf).mp happ).1 ⟨rfl, State.Warmed39.refl s, rfl⟩ trivial
        exact ⟨n, _, h1, h2, h3, hpost _ _ _ _ _ _ ⟨Cond.after_iff.mpr rfl, Cond.after_iff.mpr (eq_i res_at (Term.int_eval (1)) rfl), trivial⟩ ⟨hq.1, hq.2.1, (hq.2.2.sift fun y hy => Or.inr (N y hy)).mono (by decide) (by decide)⟩⟩
      · obtain ⟨n, o, h1, h2, h3, _, L, rfl, ⟨rfl, N, -⟩, hq⟩ := rm0_k2t l s _ hw tables_1 i0 i1 i2 (0 : Int32) (2 : Int32) w_LINE_START s.heap s.heap.size (Nat.le_refl _) hk0 hb0 ha0 S_LINE_START (by decide) F_ordinal_w_LINE_START E_w_LINE_START (by decide) p e ha hc hk s m _ below hf ((Spec.applies_iff_loose hf).mp happ).1 ⟨rfl, State.Warmed39.refl s, rfl⟩ trivial
        exact ⟨n, _, h1, h2, h3, hpost _ _ _ _ _ _ ⟨Cond.after_iff.mpr rfl, Cond.after_iff.mpr (eq_i res_at (Term.int_eval (1)) rfl), trivial⟩ ⟨hq.1, hq.2.1, (hq.2.2.sift fun y hy => Or.inr (N y hy)).mono (by decide) (by decide)⟩⟩
      · obtain ⟨n, o, h1, h2, h3, _, L, rfl, ⟨rfl, N, -⟩, hq⟩ := rm0_k2t l s _ hw tables_1 i0 i1 i2 (0 : Int32) (3 : Int32) w_LINE_START s.heap s.heap.size (Nat.le_refl _) hk0 hb0 ha0 S_LINE_START (by decide) F_ordinal_w_LINE_START E_w_LINE_START (by decide) p e ha hc hk s m _ below hf ((Spec.applies_iff_loose hf).mp happ).1 ⟨rfl, State.Warmed39.refl s, rfl⟩ trivial
        exact ⟨n, _, h1, h2, h3, hpost _ _ _ _ _ _ ⟨Cond.after_iff.mpr rfl, Cond.after_iff.mpr (eq_i res_at (Term.int_eval (1)) rfl), trivial⟩ ⟨hq.1, hq.2.1, (hq.2.2.sift fun y hy => Or.inr (N y hy)).mono (by decide) (by decide)⟩⟩
    · rcases own_split4 (x := a) (by omega) (by omega) with rfl | rfl | rfl | rfl
      · obtain ⟨n, o, h1, h2, h3, _, L, rfl, ⟨rfl, N, -⟩, hq⟩ := rm0_k2ff l s _ hw tables_1 i0 i1 i2 (1 : Int32) (0 : Int32) w_LINE_START s.heap s.heap.size (Nat.le_refl _) hk0 hb0 ha0 S_LINE_START (by decide) F_ordinal_w_LINE_START E_w_LINE_START (by decide) (by decide) p e ha hc hk s m _ below hf ((Spec.applies_iff_loose hf).mp happ).1 ⟨rfl, State.Warmed39.refl s, rfl⟩ trivial
        exact ⟨n, _, h1, h2, h3, hpost _ _ _ _ _ _ ⟨Cond.after_iff.mpr rfl, Cond.after_iff.mpr (eq_i res_at (Term.int_eval (1)) rfl), trivial⟩ ⟨hq.1, hq.2.1, (hq.2.2.sift fun y hy => Or.inr (N y hy)).mono (by decide) (by decide)⟩⟩
      · obtain ⟨n, o, h1, h2, h3, _, L, rfl, ⟨rfl, N, -⟩, hq⟩ := rm0_k2ff l s _ hw tables_1 i0 i1 i2 (1 : Int32) (1 : Int32) w_LINE_START s.heap s.heap.size (Nat.le_refl _) hk0 hb0 ha0 S_LINE_START (by decide) F_ordinal_w_LINE_START E_w_LINE_START (by decide) (by decide) p e ha hc hk s m _ below hf ((Spec.applies_iff_loose hf).mp happ).1 ⟨rfl, State.Warmed39.refl s, rfl⟩ trivial
        exact ⟨n, _, h1, h2, h3, hpost _ _ _ _ _ _ ⟨Cond.after_iff.mpr rfl, Cond.after_iff.mpr (eq_i res_at (Term.int_eval (1)) rfl), trivial⟩ ⟨hq.1, hq.2.1, (hq.2.2.sift fun y hy => Or.inr (N y hy)).mono (by decide) (by decide)⟩⟩
      · obtain ⟨n, o, h1, h2, h3, _, L, rfl, ⟨rfl, N, -⟩, hq⟩ := rm0_k2ff l s _ hw tables_1 i0 i1 i2 (1 : Int32) (2 : Int32) w_LINE_START s.heap s.heap.size (Nat.le_refl _) hk0 hb0 ha0 S_LINE_START (by decide) F_ordinal_w_LINE_START E_w_LINE_START (by decide) (by decide) p e ha hc hk s m _ below hf ((Spec.applies_iff_loose hf).mp happ).1 ⟨rfl, State.Warmed39.refl s, rfl⟩ trivial
        exact ⟨n, _, h1, h2, h3, hpost _ _ _ _ _ _ ⟨Cond.after_iff.mpr rfl, Cond.after_iff.mpr (eq_i res_at (Term.int_eval (1)) rfl), trivial⟩ ⟨hq.1, hq.2.1, (hq.2.2.sift fun y hy => Or.inr (N y hy)).mono (by decide) (by decide)⟩⟩
      · obtain ⟨n, o, h1, h2, h3, _, L, rfl, ⟨rfl, N, -⟩, hq⟩ := rm0_k2ff l s _ hw tables_1 i0 i1 i2 (1 : Int32) (3 : Int32) w_LINE_START s.heap s.heap.size (Nat.le_refl _) hk0 hb0 ha0 S_LINE_START (by decide) F_ordinal_w_LINE_START E_w_LINE_START (by decide) (by decide) p e ha hc hk s m _ below hf ((Spec.applies_iff_loose hf).mp happ).1 ⟨rfl, State.Warmed39.refl s, rfl⟩ trivial
        exact ⟨n, _, h1, h2, h3, hpost _ _ _ _ _ _ ⟨Cond.after_iff.mpr rfl, Cond.after_iff.mpr (eq_i res_at (Term.int_eval (1)) rfl), trivial⟩ ⟨hq.1, hq.2.1, (hq.2.2.sift fun y hy => Or.inr (N y hy)).mono (by decide) (by decide)⟩⟩
    · rcases own_split4 (x := a) (by omega) (by omega) with rfl | rfl | rfl | rfl
      · obtain ⟨n, o, h1, h2, h3, _, L, rfl, ⟨rfl, N, -⟩, hq⟩ := rm0_k2ft l s _ hw tables_1 i0 i1 i2 (2 : Int32) (0 : Int32) w_LINE_START s.heap s.heap.size (Nat.le_refl _) hk0 hb0 ha0 S_LINE_START (by decide) F_ordinal_w_LINE_START E_w_LINE_START (by decide) (by decide) p e ha hc hk s m _ below hf ((Spec.applies_iff_loose hf).mp happ).1 ⟨rfl, State.Warmed39.refl s, rfl⟩ trivial
        exact ⟨n, _, h1, h2, h3, hpost _ _ _ _ _ _ ⟨Cond.after_iff.mpr rfl, Cond.after_iff.mpr (eq_i res_at (Term.int_eval (1)) rfl), trivial⟩ ⟨hq.1, hq.2.1, (hq.2.2.sift fun y hy => Or.inr (N y hy)).mono (by decide) (by decide)⟩⟩
      · obtain ⟨n, o, h1, h2, h3, _, L, rfl, ⟨rfl, N, -⟩, hq⟩ := rm0_k2ft l s _ hw tables_1 i0 i1 i2 (2 : Int32) (1 : Int32) w_LINE_START s.heap s.heap.size (Nat.le_refl _) hk0 hb0 ha0 S_LINE_START (by decide) F_ordinal_w_LINE_START E_w_LINE_START (by decide) (by decide) p e ha hc hk s m _ below hf ((Spec.applies_iff_loose hf).mp happ).1 ⟨rfl, State.Warmed39.refl s, rfl⟩ trivial
        exact ⟨n, _, h1, h2, h3, hpost _ _ _ _ _ _ ⟨Cond.after_iff.mpr rfl, Cond.after_iff.mpr (eq_i res_at (Term.int_eval (1)) rfl), trivial⟩ ⟨hq.1, hq.2.1, (hq.2.2.sift fun y hy => Or.inr (N y hy)).mono (by decide) (by decide)⟩⟩
      · obtain ⟨n, o, h1, h2, h3, _, L, rfl, ⟨rfl, N, -⟩, hq⟩ := rm0_k2ft l s _ hw tables_1 i0 i1 i2 (2 : Int32) (2 : Int32) w_LINE_START s.heap s.heap.size (Nat.le_refl _) hk0 hb0 ha0 S_LINE_START (by decide) F_ordinal_w_LINE_START E_w_LINE_START (by decide) (by decide) p e ha hc hk s m _ below hf ((Spec.applies_iff_loose hf).mp happ).1 ⟨rfl, State.Warmed39.refl s, rfl⟩ trivial
        exact ⟨n, _, h1, h2, h3, hpost _ _ _ _ _ _ ⟨Cond.after_iff.mpr rfl, Cond.after_iff.mpr (eq_i res_at (Term.int_eval (1)) rfl), trivial⟩ ⟨hq.1, hq.2.1, (hq.2.2.sift fun y hy => Or.inr (N y hy)).mono (by decide) (by decide)⟩⟩
      · obtain ⟨n, o, h1, h2, h3, _, L, rfl, ⟨rfl, N, -⟩, hq⟩ := rm0_k2ft l s _ hw tables_1 i0 i1 i2 (2 : Int32) (3 : Int32) w_LINE_START s.heap s.heap.size (Nat.le_refl _) hk0 hb0 ha0 S_LINE_START (by decide) F_ordinal_w_LINE_START E_w_LINE_START (by decide) (by decide) p e ha hc hk s m _ below hf ((Spec.applies_iff_loose hf).mp happ).1 ⟨rfl, State.Warmed39.refl s, rfl⟩ trivial
        exact ⟨n, _, h1, h2, h3, hpost _ _ _ _ _ _ ⟨Cond.after_iff.mpr rfl, Cond.after_iff.mpr (eq_i res_at (Term.int_eval (1)) rfl), trivial⟩ ⟨hq.1, hq.2.1, (hq.2.2.sift fun y hy => Or.inr (N y hy)).mono (by decide) (by decide)⟩⟩
    · rcases own_split4 (x := a) (by omega) (by omega) with rfl | rfl | rfl | rfl
      · obtain ⟨n, o, h1, h2, h3, _, L, rfl, ⟨rfl, N, -⟩, hq⟩ := rm0_k2ft l s _ hw tables_1 i0 i1 i2 (3 : Int32) (0 : Int32) w_LINE_START s.heap s.heap.size (Nat.le_refl _) hk0 hb0 ha0 S_LINE_START (by decide) F_ordinal_w_LINE_START E_w_LINE_START (by decide) (by decide) p e ha hc hk s m _ below hf ((Spec.applies_iff_loose hf).mp happ).1 ⟨rfl, State.Warmed39.refl s, rfl⟩ trivial
        exact ⟨n, _, h1, h2, h3, hpost _ _ _ _ _ _ ⟨Cond.after_iff.mpr rfl, Cond.after_iff.mpr (eq_i res_at (Term.int_eval (1)) rfl), trivial⟩ ⟨hq.1, hq.2.1, (hq.2.2.sift fun y hy => Or.inr (N y hy)).mono (by decide) (by decide)⟩⟩
      · obtain ⟨n, o, h1, h2, h3, _, L, rfl, ⟨rfl, N, -⟩, hq⟩ := rm0_k2ft l s _ hw tables_1 i0 i1 i2 (3 : Int32) (1 : Int32) w_LINE_START s.heap s.heap.size (Nat.le_refl _) hk0 hb0 ha0 S_LINE_START (by decide) F_ordinal_w_LINE_START E_w_LINE_START (by decide) (by decide) p e ha hc hk s m _ below hf ((Spec.applies_iff_loose hf).mp happ).1 ⟨rfl, State.Warmed39.refl s, rfl⟩ trivial
        exact ⟨n, _, h1, h2, h3, hpost _ _ _ _ _ _ ⟨Cond.after_iff.mpr rfl, Cond.after_iff.mpr (eq_i res_at (Term.int_eval (1)) rfl), trivial⟩ ⟨hq.1, hq.2.1, (hq.2.2.sift fun y hy => Or.inr (N y hy)).mono (by decide) (by decide)⟩⟩
      · obtain ⟨n, o, h1, h2, h3, _, L, rfl, ⟨rfl, N, -⟩, hq⟩ := rm0_k2ft l s _ hw tables_1 i0 i1 i2 (3 : Int32) (2 : Int32) w_LINE_START s.heap s.heap.size (Nat.le_refl _) hk0 hb0 ha0 S_LINE_START (by decide) F_ordinal_w_LINE_START E_w_LINE_START (by decide) (by decide) p e ha hc hk s m _ below hf ((Spec.applies_iff_loose hf).mp happ).1 ⟨rfl, State.Warmed39.refl s, rfl⟩ trivial
        exact ⟨n, _, h1, h2, h3, hpost _ _ _ _ _ _ ⟨Cond.after_iff.mpr rfl, Cond.after_iff.mpr (eq_i res_at (Term.int_eval (1)) rfl), trivial⟩ ⟨hq.1, hq.2.1, (hq.2.2.sift fun y hy => Or.inr (N y hy)).mono (by decide) (by decide)⟩⟩
      · obtain ⟨n, o, h1, h2, h3, _, L, rfl, ⟨rfl, N, -⟩, hq⟩ := rm0_k2ft l s _ hw tables_1 i0 i1 i2 (3 : Int32) (3 : Int32) w_LINE_START s.heap s.heap.size (Nat.le_refl _) hk0 hb0 ha0 S_LINE_START (by decide) F_ordinal_w_LINE_START E_w_LINE_START (by decide) (by decide) p e ha hc hk s m _ below hf ((Spec.applies_iff_loose hf).mp happ).1 ⟨rfl, State.Warmed39.refl s, rfl⟩ trivial
        exact ⟨n, _, h1, h2, h3, hpost _ _ _ _ _ _ ⟨Cond.after_iff.mpr rfl, Cond.after_iff.mpr (eq_i res_at (Term.int_eval (1)) rfl), trivial⟩ ⟨hq.1, hq.2.1, (hq.2.2.sift fun y hy => Or.inr (N y hy)).mono (by decide) (by decide)⟩⟩
  · rcases own_split4 (x := b) (by omega) (by omega) with rfl | rfl | rfl | rfl
    · rcases own_split4 (x := a) (by omega) (by omega) with rfl | rfl | rfl | rfl
      · obtain ⟨n, o, h1, h2, h3, _, L, rfl, ⟨rfl, N, -⟩, hq⟩ := rm0_k3t l s _ hw tables_1 i0 i1 i2 (0 : Int32) (0 : Int32) w_LINE_END s.heap s.heap.size (Nat.le_refl _) hk0 hb0 ha0 S_LINE_END (by decide) F_ordinal_w_LINE_END E_w_LINE_END (by decide) p e ha hc hk s m _ below hf ((Spec.applies_iff_loose hf).mp happ).1 ⟨rfl, State.Warmed39.refl s, rfl⟩ trivial
        exact ⟨n, _, h1, h2, h3, hpost _ _ _ _ _ _ ⟨Cond.after_iff.mpr rfl, Cond.after_iff.mpr (eq_i res_at (Term.int_eval (1)) rfl), trivial⟩ ⟨hq.1, hq.2.1, (hq.2.2.sift fun y hy => Or.inr (N y hy)).mono (by decide) (by decide)⟩⟩
      · obtain ⟨n, o, h1, h2, h3, _, L, rfl, ⟨rfl, N, -⟩, hq⟩ := rm0_k3ff l s _ hw tables_1 i0 i1 i2 (0 : Int32) (1 : Int32) w_LINE_END s.heap s.heap.size (Nat.le_refl _) hk0 hb0 ha0 S_LINE_END (by decide) F_ordinal_w_LINE_END E_w_LINE_END (by decide) (by decide) p e ha hc hk s m _ below hf ((Spec.applies_iff_loose hf).mp happ).1 ⟨rfl, State.Warmed39.refl s, rfl⟩ trivial
        exact ⟨n, _, h1, h2, h3, hpost _ _ _ _ _ _ ⟨Cond.after_iff.mpr rfl, Cond.after_iff.mpr (eq_i res_at (Term.int_eval (1)) rfl), trivial⟩ ⟨hq.1, hq.2.1, (hq.2.2.sift fun y hy => Or.inr (N y hy)).mono (by decide) (by decide)⟩⟩
      · obtain ⟨n, o, h1, h2, h3, _, L, rfl, ⟨rfl, N, -⟩, hq⟩ := rm0_k3ft l s _ hw tables_1 i0 i1 i2 (0 : Int32) (2 : Int32) w_LINE_END s.heap s.heap.size (Nat.le_refl _) hk0 hb0 ha0 S_LINE_END (by decide) F_ordinal_w_LINE_END E_w_LINE_END (by decide) (by decide) p e ha hc hk s m _ below hf ((Spec.applies_iff_loose hf).mp happ).1 ⟨rfl, State.Warmed39.refl s, rfl⟩ trivial
        exact ⟨n, _, h1, h2, h3, hpost _ _ _ _ _ _ ⟨Cond.after_iff.mpr rfl, Cond.after_iff.mpr (eq_i res_at (Term.int_eval (1)) rfl), trivial⟩ ⟨hq.1, hq.2.1, (hq.2.2.sift fun y hy => Or.inr (N y hy)).mono (by decide) (by decide)⟩⟩
      · obtain ⟨n, o, h1, h2, h3, _, L, rfl, ⟨rfl, N, -⟩, hq⟩ := rm0_k3ft l s _ hw tables_1 i0 i1 i2 (0 : Int32) (3 : Int32) w_LINE_END s.heap s.heap.size (Nat.le_refl _) hk0 hb0 ha0 S_LINE_END (by decide) F_ordinal_w_LINE_END E_w_LINE_END (by decide) (by decide) p e ha hc hk s m _ below hf ((Spec.applies_iff_loose hf).mp happ).1 ⟨rfl, State.Warmed39.refl s, rfl⟩ trivial
        exact ⟨n, _, h1, h2, h3, hpost _ _ _ _ _ _ ⟨Cond.after_iff.mpr rfl, Cond.after_iff.mpr (eq_i res_at (Term.int_eval (1)) rfl), trivial⟩ ⟨hq.1, hq.2.1, (hq.2.2.sift fun y hy => Or.inr (N y hy)).mono (by decide) (by decide)⟩⟩
    · rcases own_split4 (x := a) (by omega) (by omega) with rfl | rfl | rfl | rfl
      · obtain ⟨n, o, h1, h2, h3, _, L, rfl, ⟨rfl, N, -⟩, hq⟩ := rm0_k3t l s _ hw tables_1 i0 i1 i2 (1 : Int32) (0 : Int32) w_LINE_END s.heap s.heap.size (Nat.le_refl _) hk0 hb0 ha0 S_LINE_END (by decide) F_ordinal_w_LINE_END E_w_LINE_END (by decide) p e ha hc hk s m _ below hf ((Spec.applies_iff_loose hf).mp happ).1 ⟨rfl, State.Warmed39.refl s, rfl⟩ trivial
        exact ⟨n, _, h1, h2, h3, hpost _ _ _ _ _ _ ⟨Cond.after_iff.mpr rfl, Cond.after_iff.mpr (eq_i res_at (Term.int_eval (1)) rfl), trivial⟩ ⟨hq.1, hq.2.1, (hq.2.2.sift fun y hy => Or.inr (N y hy)).mono (by decide) (by decide)⟩⟩
      · obtain ⟨n, o, h1, h2, h3, _, L, rfl, ⟨rfl, N, -⟩, hq⟩ := rm0_k3ff l s _ hw tables_1 i0 i1 i2 (1 : Int32) (1 : Int32) w_LINE_END s.heap s.heap.size (Nat.le_refl _) hk0 hb0 ha0 S_LINE_END (by decide) F_ordinal_w_LINE_END E_w_LINE_END (by decide) (by decide) p e ha hc hk s m _ below hf ((Spec.applies_iff_loose hf).mp happ).1 ⟨rfl, State.Warmed39.refl s, rfl⟩ trivial
        exact ⟨n, _, h1, h2, h3, hpost _ _ _ _ _ _ ⟨Cond.after_iff.mpr rfl, Cond.after_iff.mpr (eq_i res_at (Term.int_eval (1)) rfl), trivial⟩ ⟨hq.1, hq.2.1, (hq.2.2.sift fun y hy => Or.inr (N y hy)).mono (by decide) (by decide)⟩⟩
      · obtain ⟨n, o, h1, h2, h3, _, L, rfl, ⟨rfl, N, -⟩, hq⟩ := rm0_k3ft l s _ hw tables_1 i0 i1 i2 (1 : Int32) (2 : Int32) w_LINE_END s.heap s.heap.size (Nat.le_refl _) hk0 hb0 ha0 S_LINE_END (by decide) F_ordinal_w_LINE_END E_w_LINE_END (by decide) (by decide) p e ha hc hk s m _ below hf ((Spec.applies_iff_loose hf).mp happ).1 ⟨rfl, State.Warmed39.refl s, rfl⟩ trivial
        exact ⟨n, _, h1, h2, h3, hpost _ _ _ _ _ _ ⟨Cond.after_iff.mpr rfl, Cond.after_iff.mpr (eq_i res_at (Term.int_eval (1)) rfl), trivial⟩ ⟨hq.1, hq.2.1, (hq.2.2.sift fun y hy => Or.inr (N y hy)).mono (by decide) (by decide)⟩⟩
      · obtain ⟨n, o, h1, h2, h3, _, L, rfl, ⟨rfl, N, -⟩, hq⟩ := rm0_k3ft l s _ hw tables_1 i0 i1 i2 (1 : Int32) (3 : Int32) w_LINE_END s.heap s.heap.size (Nat.le_refl _) hk0 hb0 ha0 S_LINE_END (by decide) F_ordinal_w_LINE_END E_w_LINE_END (by decide) (by decide) p e ha hc hk s m _ below hf ((Spec.applies_iff_loose hf).mp happ).1 ⟨rfl, State.Warmed39.refl s, rfl⟩ trivial
        exact ⟨n, _, h1, h2, h3, hpost _ _ _ _ _ _ ⟨Cond.after_iff.mpr rfl, Cond.after_iff.mpr (eq_i res_at (Term.int_eval (1)) rfl), trivial⟩ ⟨hq.1, hq.2.1, (hq.2.2.sift fun y hy => Or.inr (N y hy)).mono (by decide) (by decide)⟩⟩
    · rcases own_split4 (x := a) (by omega) (by omega) with rfl | rfl | rfl | rfl
      · obtain ⟨n, o, h1, h2, h3, _, L, rfl, ⟨rfl, N, -⟩, hq⟩ := rm0_k3t l s _ hw tables_1 i0 i1 i2 (2 : Int32) (0 : Int32) w_LINE_END s.heap s.heap.size (Nat.le_refl _) hk0 hb0 ha0 S_LINE_END (by decide) F_ordinal_w_LINE_END E_w_LINE_END (by decide) p e ha hc hk s m _ below hf ((Spec.applies_iff_loose hf).mp happ).1 ⟨rfl, State.Warmed39.refl s, rfl⟩ trivial
        exact ⟨n, _, h1, h2, h3, hpost _ _ _ _ _ _ ⟨Cond.after_iff.mpr rfl, Cond.after_iff.mpr (eq_i res_at (Term.int_eval (1)) rfl), trivial⟩ ⟨hq.1, hq.2.1, (hq.2.2.sift fun y hy => Or.inr (N y hy)).mono (by decide) (by decide)⟩⟩
      · obtain ⟨n, o, h1, h2, h3, _, L, rfl, ⟨rfl, N, -⟩, hq⟩ := rm0_k3ff l s _ hw tables_1 i0 i1 i2 (2 : Int32) (1 : Int32) w_LINE_END s.heap s.heap.size (Nat.le_refl _) hk0 hb0 ha0 S_LINE_END (by decide) F_ordinal_w_LINE_END E_w_LINE_END (by decide) (by decide) p e ha hc hk s m _ below hf ((Spec.applies_iff_loose hf).mp happ).1 ⟨rfl, State.Warmed39.refl s, rfl⟩ trivial
        exact ⟨n, _, h1, h2, h3, hpost _ _ _ _ _ _ ⟨Cond.after_iff.mpr rfl, Cond.after_iff.mpr (eq_i res_at (Term.int_eval (1)) rfl), trivial⟩ ⟨hq.1, hq.2.1, (hq.2.2.sift fun y hy => Or.inr (N y hy)).mono (by decide) (by decide)⟩⟩
      · obtain ⟨n, o, h1, h2, h3, _, L, rfl, ⟨rfl, N, -⟩, hq⟩ := rm0_k3ft l s _ hw tables_1 i0 i1 i2 (2 : Int32) (2 : Int32) w_LINE_END s.heap s.heap.size (Nat.le_refl _) hk0 hb0 ha0 S_LINE_END (by decide) F_ordinal_w_LINE_END E_w_LINE_END (by decide) (by decide) p e ha hc hk s m _ below hf ((Spec.applies_iff_loose hf).mp happ).1 ⟨rfl, State.Warmed39.refl s, rfl⟩ trivial
        exact ⟨n, _, h1, h2, h3, hpost _ _ _ _ _ _ ⟨Cond.after_iff.mpr rfl, Cond.after_iff.mpr (eq_i res_at (Term.int_eval (1)) rfl), trivial⟩ ⟨hq.1, hq.2.1, (hq.2.2.sift fun y hy => Or.inr (N y hy)).mono (by decide) (by decide)⟩⟩
      · obtain ⟨n, o, h1, h2, h3, _, L, rfl, ⟨rfl, N, -⟩, hq⟩ := rm0_k3ft l s _ hw tables_1 i0 i1 i2 (2 : Int32) (3 : Int32) w_LINE_END s.heap s.heap.size (Nat.le_refl _) hk0 hb0 ha0 S_LINE_END (by decide) F_ordinal_w_LINE_END E_w_LINE_END (by decide) (by decide) p e ha hc hk s m _ below hf ((Spec.applies_iff_loose hf).mp happ).1 ⟨rfl, State.Warmed39.refl s, rfl⟩ trivial
        exact ⟨n, _, h1, h2, h3, hpost _ _ _ _ _ _ ⟨Cond.after_iff.mpr rfl, Cond.after_iff.mpr (eq_i res_at (Term.int_eval (1)) rfl), trivial⟩ ⟨hq.1, hq.2.1, (hq.2.2.sift fun y hy => Or.inr (N y hy)).mono (by decide) (by decide)⟩⟩
    · rcases own_split4 (x := a) (by omega) (by omega) with rfl | rfl | rfl | rfl
      · obtain ⟨n, o, h1, h2, h3, _, L, rfl, ⟨rfl, N, -⟩, hq⟩ := rm0_k3t l s _ hw tables_1 i0 i1 i2 (3 : Int32) (0 : Int32) w_LINE_END s.heap s.heap.size (Nat.le_refl _) hk0 hb0 ha0 S_LINE_END (by decide) F_ordinal_w_LINE_END E_w_LINE_END (by decide) p e ha hc hk s m _ below hf ((Spec.applies_iff_loose hf).mp happ).1 ⟨rfl, State.Warmed39.refl s, rfl⟩ trivial
        exact ⟨n, _, h1, h2, h3, hpost _ _ _ _ _ _ ⟨Cond.after_iff.mpr rfl, Cond.after_iff.mpr (eq_i res_at (Term.int_eval (1)) rfl), trivial⟩ ⟨hq.1, hq.2.1, (hq.2.2.sift fun y hy => Or.inr (N y hy)).mono (by decide) (by decide)⟩⟩
      · obtain ⟨n, o, h1, h2, h3, _, L, rfl, ⟨rfl, N, -⟩, hq⟩ := rm0_k3ff l s _ hw tables_1 i0 i1 i2 (3 : Int32) (1 : Int32) w_LINE_END s.heap s.heap.size (Nat.le_refl _) hk0 hb0 ha0 S_LINE_END (by decide) F_ordinal_w_LINE_END E_w_LINE_END (by decide) (by decide) p e ha hc hk s m _ below hf ((Spec.applies_iff_loose hf).mp happ).1 ⟨rfl, State.Warmed39.refl s, rfl⟩ trivial
        exact ⟨n, _, h1, h2, h3, hpost _ _ _ _ _ _ ⟨Cond.after_iff.mpr rfl, Cond.after_iff.mpr (eq_i res_at (Term.int_eval (1)) rfl), trivial⟩ ⟨hq.1, hq.2.1, (hq.2.2.sift fun y hy => Or.inr (N y hy)).mono (by decide) (by decide)⟩⟩
      · obtain ⟨n, o, h1, h2, h3, _, L, rfl, ⟨rfl, N, -⟩, hq⟩ := rm0_k3ft l s _ hw tables_1 i0 i1 i2 (3 : Int32) (2 : Int32) w_LINE_END s.heap s.heap.size (Nat.le_refl _) hk0 hb0 ha0 S_LINE_END (by decide) F_ordinal_w_LINE_END E_w_LINE_END (by decide) (by decide) p e ha hc hk s m _ below hf ((Spec.applies_iff_loose hf).mp happ).1 ⟨rfl, State.Warmed39.refl s, rfl⟩ trivial
        exact ⟨n, _, h1, h2, h3, hpost _ _ _ _ _ _ ⟨Cond.after_iff.mpr rfl, Cond.after_iff.mpr (eq_i res_at (Term.int_eval (1)) rfl), trivial⟩ ⟨hq.1, hq.2.1, (hq.2.2.sift fun y hy => Or.inr (N y hy)).mono (by decide) (by decide)⟩⟩
      · obtain ⟨n, o, h1, h2, h3, _, L, rfl, ⟨rfl, N, -⟩, hq⟩ := rm0_k3ft l s _ hw tables_1 i0 i1 i2 (3 : Int32) (3 : Int32) w_LINE_END s.heap s.heap.size (Nat.le_refl _) hk0 hb0 ha0 S_LINE_END (by decide) F_ordinal_w_LINE_END E_w_LINE_END (by decide) (by decide) p e ha hc hk s m _ below hf ((Spec.applies_iff_loose hf).mp happ).1 ⟨rfl, State.Warmed39.refl s, rfl⟩ trivial
        exact ⟨n, _, h1, h2, h3, hpost _ _ _ _ _ _ ⟨Cond.after_iff.mpr rfl, Cond.after_iff.mpr (eq_i res_at (Term.int_eval (1)) rfl), trivial⟩ ⟨hq.1, hq.2.1, (hq.2.2.sift fun y hy => Or.inr (N y hy)).mono (by decide) (by decide)⟩⟩
  · rcases own_split4 (x := b) (by omega) (by omega) with rfl | rfl | rfl | rfl
    · rcases own_split4 (x := a) (by omega) (by omega) with rfl | rfl | rfl | rfl
      · obtain ⟨n, o, h1, h2, h3, _, L, rfl, ⟨rfl, N, -⟩, hq⟩ := rm0_k4tt l s _ hw tables_1 i0 i1 i2 (0 : Int32) (0 : Int32) w_WORD_BOUNDARY s.heap s.heap.size (Nat.le_refl _) hk0 hb0 ha0 S_WORD_BOUNDARY (by decide) F_ordinal_w_WORD_BOUNDARY E_w_WORD_BOUNDARY (by decide) (by decide) p e ha hc hk s m _ below hf ((Spec.applies_iff_loose hf).mp happ).1 ⟨rfl, State.Warmed39.refl s, rfl⟩ trivial
        exact ⟨n, _, h1, h2, h3, hpost _ _ _ _ _ _ ⟨Cond.after_iff.mpr rfl, Cond.after_iff.mpr (eq_i res_at (Term.int_eval (1)) rfl), trivial⟩ ⟨hq.1, hq.2.1, (hq.2.2.sift fun y hy => Or.inr (N y hy)).mono (by decide) (by decide)⟩⟩
      · obtain ⟨n, o, h1, h2, h3, _, L, rfl, ⟨rfl, N, -⟩, hq⟩ := rm0_k4tt l s _ hw tables_1 i0 i1 i2 (0 : Int32) (1 : Int32) w_WORD_BOUNDARY s.heap s.heap.size (Nat.le_refl _) hk0 hb0 ha0 S_WORD_BOUNDARY (by decide) F_ordinal_w_WORD_BOUNDARY E_w_WORD_BOUNDARY (by decide) (by decide) p e ha hc hk s m _ below hf ((Spec.applies_iff_loose hf).mp happ).1 ⟨rfl, State.Warmed39.refl s, rfl⟩ trivial
        exact ⟨n, _, h1, h2, h3, hpost _ _ _ _ _ _ ⟨Cond.after_iff.mpr rfl, Cond.after_iff.mpr (eq_i res_at (Term.int_eval (1)) rfl), trivial⟩ ⟨hq.1, hq.2.1, (hq.2.2.sift fun y hy => Or.inr (N y hy)).mono (by decide) (by decide)⟩⟩
      · obtain ⟨n, o, h1, h2, h3, _, L, rfl, ⟨rfl, N, -⟩, hq⟩ := rm0_k4tf l s _ hw tables_1 i0 i1 i2 (0 : Int32) (2 : Int32) w_WORD_BOUNDARY s.heap s.heap.size (Nat.le_refl _) hk0 hb0 ha0 S_WORD_BOUNDARY (by decide) F_ordinal_w_WORD_BOUNDARY E_w_WORD_BOUNDARY (by decide) (by decide) p e ha hc hk s m _ below hf ((Spec.applies_iff_loose hf).mp happ).1 ⟨rfl, State.Warmed39.refl s, rfl⟩ trivial
        exact ⟨n, _, h1, h2, h3, hpost _ _ _ _ _ _ ⟨Cond.after_iff.mpr rfl, Cond.after_iff.mpr (eq_i res_at (Term.int_eval (1)) rfl), trivial⟩ ⟨hq.1, hq.2.1, (hq.2.2.sift fun y hy => Or.inr (N y hy)).mono (by decide) (by decide)⟩⟩
      · obtain ⟨n, o, h1, h2, h3, _, L, rfl, ⟨rfl, N, -⟩, hq⟩ := rm0_k4tt l s _ hw tables_1 i0 i1 i2 (0 : Int32) (3 : Int32) w_WORD_BOUNDARY s.heap s.heap.size (Nat.le_refl _) hk0 hb0 ha0 S_WORD_BOUNDARY (by decide) F_ordinal_w_WORD_BOUNDARY E_w_WORD_BOUNDARY (by decide) (by decide) p e ha hc hk s m _ below hf ((Spec.applies_iff_loose hf).mp happ).1 ⟨rfl, State.Warmed39.refl s, rfl⟩ trivial
        exact ⟨n, _, h1, h2, h3, hpost _ _ _ _ _ _ ⟨Cond.after_iff.mpr rfl, Cond.after_iff.mpr (eq_i res_at (Term.int_eval (1)) rfl), trivial⟩ ⟨hq.1, hq.2.1, (hq.2.2.sift fun y hy => Or.inr (N y hy)).mono (by decide) (by decide)⟩⟩
    · rcases own_split4 (x := a) (by omega) (by omega) with rfl | rfl | rfl | rfl
      · obtain ⟨n, o, h1, h2, h3, _, L, rfl, ⟨rfl, N, -⟩, hq⟩ := rm0_k4tt l s _ hw tables_1 i0 i1 i2 (1 : Int32) (0 : Int32) w_WORD_BOUNDARY s.heap s.heap.size (Nat.le_refl _) hk0 hb0 ha0 S_WORD_BOUNDARY (by decide) F_ordinal_w_WORD_BOUNDARY E_w_WORD_BOUNDARY (by decide) (by decide) p e ha hc hk s m _ below hf ((Spec.applies_iff_loose hf).mp happ).1 ⟨rfl, State.Warmed39.refl s, rfl⟩ trivial
        exact ⟨n, _, h1, h2, h3, hpost _ _ _ _ _ _ ⟨Cond.after_iff.mpr rfl, Cond.after_iff.mpr (eq_i res_at (Term.int_eval (1)) rfl), trivial⟩ ⟨hq.1, hq.2.1, (hq.2.2.sift fun y hy => Or.inr (N y hy)).mono (by decide) (by decide)⟩⟩
      · obtain ⟨n, o, h1, h2, h3, _, L, rfl, ⟨rfl, N, -⟩, hq⟩ := rm0_k4tt l s _ hw tables_1 i0 i1 i2 (1 : Int32) (1 : Int32) w_WORD_BOUNDARY s.heap s.heap.size (Nat.le_refl _) hk0 hb0 ha0 S_WORD_BOUNDARY (by decide) F_ordinal_w_WORD_BOUNDARY E_w_WORD_BOUNDARY (by decide) (by decide) p e ha hc hk s m _ below hf ((Spec.applies_iff_loose hf).mp happ).1 ⟨rfl, State.Warmed39.refl s, rfl⟩ trivial
        exact ⟨n, _, h1, h2, h3, hpost _ _ _ _ _ _ ⟨Cond.after_iff.mpr rfl, Cond.after_iff.mpr (eq_i res_at (Term.int_eval (1)) rfl), trivial⟩ ⟨hq.1, hq.2.1, (hq.2.2.sift fun y hy => Or.inr (N y hy)).mono (by decide) (by decide)⟩⟩
      · obtain ⟨n, o, h1, h2, h3, _, L, rfl, ⟨rfl, N, -⟩, hq⟩ := rm0_k4tf l s _ hw tables_1 i0 i1 i2 (1 : Int32) (2 : Int32) w_WORD_BOUNDARY s.heap s.heap.size (Nat.le_refl _) hk0 hb0 ha0 S_WORD_BOUNDARY (by decide) F_ordinal_w_WORD_BOUNDARY E_w_WORD_BOUNDARY (by decide) (by decide) p e ha hc hk s m _ below hf ((Spec.applies_iff_loose hf).mp happ).1 ⟨rfl, State.Warmed39.refl s, rfl⟩ trivial
        exact ⟨n, _, h1, h2, h3, hpost _ _ _ _ _ _ ⟨Cond.after_iff.mpr rfl, Cond.after_iff.mpr (eq_i res_at (Term.int_eval (1)) rfl), trivial⟩ ⟨hq.1, hq.2.1, (hq.2.2.sift fun y hy => Or.inr (N y hy)).mono (by decide) (by decide)⟩⟩
      · obtain ⟨n, o, h1, h2, h3, _, L, rfl, ⟨rfl, N, -⟩, hq⟩ := rm0_k4tt l s _ hw tables_1 i0 i1 i2 (1 : Int32) (3 : Int32) w_WORD_BOUNDARY s.heap s.heap.size (Nat.le_refl _) hk0 hb0 ha0 S_WORD_BOUNDARY (by decide) F_ordinal_w_WORD_BOUNDARY E_w_WORD_BOUNDARY (by decide) (by decide) p e ha hc hk s m _ below hf ((Spec.applies_iff_loose hf).mp happ).1 ⟨rfl, State.Warmed39.refl s, rfl⟩ trivial
        exact ⟨n, _, h1, h2, h3, hpost _ _ _ _ _ _ ⟨Cond.after_iff.mpr rfl, Cond.after_iff.mpr (eq_i res_at (Term.int_eval (1)) rfl), trivial⟩ ⟨hq.1, hq.2.1, (hq.2.2.sift fun y hy => Or.inr (N y hy)).mono (by decide) (by decide)⟩⟩
    · rcases own_split4 (x := a) (by omega) (by omega) with rfl | rfl | rfl | rfl
      · obtain ⟨n, o, h1, h2, h3, _, L, rfl, ⟨rfl, N, -⟩, hq⟩ := rm0_k4ft l s _ hw tables_1 i0 i1 i2 (2 : Int32) (0 : Int32) w_WORD_BOUNDARY s.heap s.heap.size (Nat.le_refl _) hk0 hb0 ha0 S_WORD_BOUNDARY (by decide) F_ordinal_w_WORD_BOUNDARY E_w_WORD_BOUNDARY (by decide) (by decide) p e ha hc hk s m _ below hf ((Spec.applies_iff_loose hf).mp happ).1 ⟨rfl, State.Warmed39.refl s, rfl⟩ trivial
        exact ⟨n, _, h1, h2, h3, hpost _ _ _ _ _ _ ⟨Cond.after_iff.mpr rfl, Cond.after_iff.mpr (eq_i res_at (Term.int_eval (1)) rfl), trivial⟩ ⟨hq.1, hq.2.1, (hq.2.2.sift fun y hy => Or.inr (N y hy)).mono (by decide) (by decide)⟩⟩
      · obtain ⟨n, o, h1, h2, h3, _, L, rfl, ⟨rfl, N, -⟩, hq⟩ := rm0_k4ft l s _ hw tables_1 i0 i1 i2 (2 : Int32) (1 : Int32) w_WORD_BOUNDARY s.heap s.heap.size (Nat.le_refl _) hk0 hb0 ha0 S_WORD_BOUNDARY (by decide) F_ordinal_w_WORD_BOUNDARY E_w_WORD_BOUNDARY (by decide) (by decide) p e ha hc hk s m _ below hf ((Spec.applies_iff_loose hf).mp happ).1 ⟨rfl, State.Warmed39.refl s, rfl⟩ trivial
        exact ⟨n, _, h1, h2, h3, hpost _ _ _ _ _ _ ⟨Cond.after_iff.mpr rfl, Cond.after_iff.mpr (eq_i res_at (Term.int_eval (1)) rfl), trivial⟩ ⟨hq.1, hq.2.1, (hq.2.2.sift fun y hy => Or.inr (N y hy)).mono (by decide) (by decide)⟩⟩
      · obtain ⟨n, o, h1, h2, h3, _, L, rfl, ⟨rfl, N, -⟩, hq⟩ := rm0_k4ff l s _ hw tables_1 i0 i1 i2 (2 : Int32) (2 : Int32) w_WORD_BOUNDARY s.heap s.heap.size (Nat.le_refl _) hk0 hb0 ha0 S_WORD_BOUNDARY (by decide) F_ordinal_w_WORD_BOUNDARY E_w_WORD_BOUNDARY (by decide) (by decide) p e ha hc hk s m _ below hf ((Spec.applies_iff_loose hf).mp happ).1 ⟨rfl, State.Warmed39.refl s, rfl⟩ trivial
        exact ⟨n, _, h1, h2, h3, hpost _ _ _ _ _ _ ⟨Cond.after_iff.mpr rfl, Cond.after_iff.mpr (eq_i res_at (Term.int_eval (1)) rfl), trivial⟩ ⟨hq.1, hq.2.1, (hq.2.2.sift fun y hy => Or.inr (N y hy)).mono (by decide) (by decide)⟩⟩
      · obtain ⟨n, o, h1, h2, h3, _, L, rfl, ⟨rfl, N, -⟩, hq⟩ := rm0_k4ft l s _ hw tables_1 i0 i1 i2 (2 : Int32) (3 : Int32) w_WORD_BOUNDARY s.heap s.heap.size (Nat.le_refl _) hk0 hb0 ha0 S_WORD_BOUNDARY (by decide) F_ordinal_w_WORD_BOUNDARY E_w_WORD_BOUNDARY (by decide) (by decide) p e ha hc hk s m _ below hf ((Spec.applies_iff_loose hf).mp happ).1 ⟨rfl, State.Warmed39.refl s, rfl⟩ trivial
        exact ⟨n, _, h1, h2, h3, hpost _ _ _ _ _ _ ⟨Cond.after_iff.mpr rfl, Cond.after_iff.mpr (eq_i res_at (Term.int_eval (1)) rfl), trivial⟩ ⟨hq.1, hq.2.1, (hq.2.2.sift fun y hy => Or.inr (N y hy)).mono (by decide) (by decide)⟩⟩
    · rcases own_split4 (x := a) (by omega) (by omega) with rfl | rfl | rfl | rfl
      · obtain ⟨n, o, h1, h2, h3, _, L, rfl, ⟨rfl, N, -⟩, hq⟩ := rm0_k4tt l s _ hw tables_1 i0 i1 i2 (3 : Int32) (0 : Int32) w_WORD_BOUNDARY s.heap s.heap.size (Nat.le_refl _) hk0 hb0 ha0 S_WORD_BOUNDARY (by decide) F_ordinal_w_WORD_BOUNDARY E_w_WORD_BOUNDARY (by decide) (by decide) p e ha hc hk s m _ below hf ((Spec.applies_iff_loose hf).mp happ).1 ⟨rfl, State.Warmed39.refl s, rfl⟩ trivial
        exact ⟨n, _, h1, h2, h3, hpost _ _ _ _ _ _ ⟨Cond.after_iff.mpr rfl, Cond.after_iff.mpr (eq_i res_at (Term.int_eval (1)) rfl), trivial⟩ ⟨hq.1, hq.2.1, (hq.2.2.sift fun y hy => Or.inr (N y hy)).mono (by decide) (by decide)⟩⟩
      · obtain ⟨n, o, h1, h2, h3, _, L, rfl, ⟨rfl, N, -⟩, hq⟩ := rm0_k4tt l s _ hw tables_1 i0 i1 i2 (3 : Int32) (1 : Int32) w_WORD_BOUNDARY s.heap s.heap.size (Nat.le_refl _) hk0 hb0 ha0 S_WORD_BOUNDARY (by decide) F_ordinal_w_WORD_BOUNDARY E_w_WORD_BOUNDARY (by decide) (by decide) p e ha hc hk s m _ below hf ((Spec.applies_iff_loose hf).mp happ).1 ⟨rfl, State.Warmed39.refl s, rfl⟩ trivial
        exact ⟨n, _, h1, h2, h3, hpost _ _ _ _ _ _ ⟨Cond.after_iff.mpr rfl, Cond.after_iff.mpr (eq_i res_at (Term.int_eval (1)) rfl), trivial⟩ ⟨hq.1, hq.2.1, (hq.2.2.sift fun y hy => Or.inr (N y hy)).mono (by decide) (by decide)⟩⟩
      · obtain ⟨n, o, h1, h2, h3, _, L, rfl, ⟨rfl, N, -⟩, hq⟩ := rm0_k4tf l s _ hw tables_1 i0 i1 i2 (3 : Int32) (2 : Int32) w_WORD_BOUNDARY s.heap s.heap.size (Nat.le_refl _) hk0 hb0 ha0 S_WORD_BOUNDARY (by decide) F_ordinal_w_WORD_BOUNDARY E_w_WORD_BOUNDARY (by decide) (by decide) p e ha hc hk s m _ below hf ((Spec.applies_iff_loose hf).mp happ).1 ⟨rfl, State.Warmed39.refl s, rfl⟩ trivial
        exact ⟨n, _, h1, h2, h3, hpost _ _ _ _ _ _ ⟨Cond.after_iff.mpr rfl, Cond.after_iff.mpr (eq_i res_at (Term.int_eval (1)) rfl), trivial⟩ ⟨hq.1, hq.2.1, (hq.2.2.sift fun y hy => Or.inr (N y hy)).mono (by decide) (by decide)⟩⟩
      · obtain ⟨n, o, h1, h2, h3, _, L, rfl, ⟨rfl, N, -⟩, hq⟩ := rm0_k4tt l s _ hw tables_1 i0 i1 i2 (3 : Int32) (3 : Int32) w_WORD_BOUNDARY s.heap s.heap.size (Nat.le_refl _) hk0 hb0 ha0 S_WORD_BOUNDARY (by decide) F_ordinal_w_WORD_BOUNDARY E_w_WORD_BOUNDARY (by decide) (by decide) p e ha hc hk s m _ below hf ((Spec.applies_iff_loose hf).mp happ).1 ⟨rfl, State.Warmed39.refl s, rfl⟩ trivial
        exact ⟨n, _, h1, h2, h3, hpost _ _ _ _ _ _ ⟨Cond.after_iff.mpr rfl, Cond.after_iff.mpr (eq_i res_at (Term.int_eval (1)) rfl), trivial⟩ ⟨hq.1, hq.2.1, (hq.2.2.sift fun y hy => Or.inr (N y hy)).mono (by decide) (by decide)⟩⟩
  · rcases own_split4 (x := b) (by omega) (by omega) with rfl | rfl | rfl | rfl
    · rcases own_split4 (x := a) (by omega) (by omega) with rfl | rfl | rfl | rfl
      · obtain ⟨n, o, h1, h2, h3, _, L, rfl, ⟨rfl, N, -⟩, hq⟩ := rm0_k5tt l s _ hw tables_1 i0 i1 i2 (0 : Int32) (0 : Int32) w_NOT_WORD_BOUNDARY s.heap s.heap.size (Nat.le_refl _) hk0 hb0 ha0 S_NOT_WORD_BOUNDARY (by decide) F_ordinal_w_NOT_WORD_BOUNDARY E_w_NOT_WORD_BOUNDARY (by decide) (by decide) p e ha hc hk s m _ below hf ((Spec.applies_iff_loose hf).mp happ).1 ⟨rfl, State.Warmed39.refl s, rfl⟩ trivial
        exact ⟨n, _, h1, h2, h3, hpost _ _ _ _ _ _ ⟨Cond.after_iff.mpr rfl, Cond.after_iff.mpr (eq_i res_at (Term.int_eval (1)) rfl), trivial⟩ ⟨hq.1, hq.2.1, (hq.2.2.sift fun y hy => Or.inr (N y hy)).mono (by decide) (by decide)⟩⟩
      · obtain ⟨n, o, h1, h2, h3, _, L, rfl, ⟨rfl, N, -⟩, hq⟩ := rm0_k5tt l s _ hw tables_1 i0 i1 i2 (0 : Int32) (1 : Int32) w_NOT_WORD_BOUNDARY s.heap s.heap.size (Nat.le_refl _) hk0 hb0 ha0 S_NOT_WORD_BOUNDARY (by decide) F_ordinal_w_NOT_WORD_BOUNDARY E_w_NOT_WORD_BOUNDARY (by decide) (by decide) p e ha hc hk s m _ below hf ((Spec.applies_iff_loose hf).mp happ).1 ⟨rfl, State.Warmed39.refl s, rfl⟩ trivial
        exact ⟨n, _, h1, h2, h3, hpost _ _ _ _ _ _ ⟨Cond.after_iff.mpr rfl, Cond.after_iff.mpr (eq_i res_at (Term.int_eval (1)) rfl), trivial⟩ ⟨hq.1, hq.2.1, (hq.2.2.sift fun y hy => Or.inr (N y hy)).mono (by decide) (by decide)⟩⟩
      · obtain ⟨n, o, h1, h2, h3, _, L, rfl, ⟨rfl, N, -⟩, hq⟩ := rm0_k5tf l s _ hw tables_1 i0 i1 i2 (0 : Int32) (2 : Int32) w_NOT_WORD_BOUNDARY s.heap s.heap.size (Nat.le_refl _) hk0 hb0 ha0 S_NOT_WORD_BOUNDARY (by decide) F_ordinal_w_NOT_WORD_BOUNDARY E_w_NOT_WORD_BOUNDARY (by decide) (by decide) p e ha hc hk s m _ below hf ((Spec.applies_iff_loose hf).mp happ).1 ⟨rfl, State.Warmed39.refl s, rfl⟩ trivial
        exact ⟨n, _, h1, h2, h3, hpost _ _ _ _ _ _ ⟨Cond.after_iff.mpr rfl, Cond.after_iff.mpr (eq_i res_at (Term.int_eval (1)) rfl), trivial⟩ ⟨hq.1, hq.2.1, (hq.2.2.sift fun y hy => Or.inr (N y hy)).mono (by decide) (by decide)⟩⟩
      · obtain ⟨n, o, h1, h2, h3, _, L, rfl, ⟨rfl, N, -⟩, hq⟩ := rm0_k5tt l s _ hw tables_1 i0 i1 i2 (0 : Int32) (3 : Int32) w_NOT_WORD_BOUNDARY s.heap s.heap.size (Nat.le_refl _) hk0 hb0 ha0 S_NOT_WORD_BOUNDARY (by decide) F_ordinal_w_NOT_WORD_BOUNDARY E_w_NOT_WORD_BOUNDARY (by decide) (by decide) p e ha hc hk s m _ below hf ((Spec.applies_iff_loose hf).mp happ).1 ⟨rfl, State.Warmed39.refl s, rfl⟩ trivial
        exact ⟨n, _, h1, h2, h3, hpost _ _ _ _ _ _ ⟨Cond.after_iff.mpr rfl, Cond.after_iff.mpr (eq_i res_at (Term.int_eval (1)) rfl), trivial⟩ ⟨hq.1, hq.2.1, (hq.2.2.sift fun y hy => Or.inr (N y hy)).mono (by decide) (by decide)⟩⟩
    · rcases own_split4 (x := a) (by omega) (by omega) with rfl | rfl | rfl | rfl
      · obtain ⟨n, o, h1, h2, h3, _, L, rfl, ⟨rfl, N, -⟩, hq⟩ := rm0_k5tt l s _ hw tables_1 i0 i1 i2 (1 : Int32) (0 : Int32) w_NOT_WORD_BOUNDARY s.heap s.heap.size (Nat.le_refl _) hk0 hb0 ha0 S_NOT_WORD_BOUNDARY (by decide) F_ordinal_w_NOT_WORD_BOUNDARY E_w_NOT_WORD_BOUNDARY (by decide) (by decide) p e ha hc hk s m _ below hf ((Spec.applies_iff_loose hf).mp happ).1 ⟨rfl, State.Warmed39.refl s, rfl⟩ trivial
        exact ⟨n, _, h1, h2, h3, hpost _ _ _ _ _ _ ⟨Cond.after_iff.mpr rfl, Cond.after_iff.mpr (eq_i res_at (Term.int_eval (1)) rfl), trivial⟩ ⟨hq.1, hq.2.1, (hq.2.2.sift fun y hy => Or.inr (N y hy)).mono (by decide) (by decide)⟩⟩
      · obtain ⟨n, o, h1, h2, h3, _, L, rfl, ⟨rfl, N, -⟩, hq⟩ := rm0_k5tt l s _ hw tables_1 i0 i1 i2 (1 : Int32) (1 : Int32) w_NOT_WORD_BOUNDARY s.heap s.heap.size (Nat.le_refl _) hk0 hb0 ha0 S_NOT_WORD_BOUNDARY (by decide) F_ordinal_w_NOT_WORD_BOUNDARY E_w_NOT_WORD_BOUNDARY (by decide) (by decide) p e ha hc hk s m _ below hf ((Spec.applies_iff_loose hf).mp happ).1 ⟨rfl, State.Warmed39.refl s, rfl⟩ trivial
        exact ⟨n, _, h1, h2, h3, hpost _ _ _ _ _ _ ⟨Cond.after_iff.mpr rfl, Cond.after_iff.mpr (eq_i res_at (Term.int_eval (1)) rfl), trivial⟩ ⟨hq.1, hq.2.1, (hq.2.2.sift fun y hy => Or.inr (N y hy)).mono (by decide) (by decide)⟩⟩
      · obtain ⟨n, o, h1, h2, h3, _, L, rfl, ⟨rfl, N, -⟩, hq⟩ := rm0_k5tf l s _ hw tables_1 i0 i1 i2 (1 : Int32) (2 : Int32) w_NOT_WORD_BOUNDARY s.heap s.heap.size (Nat.le_refl _) hk0 hb0 ha0 S_NOT_WORD_BOUNDARY (by decide) F_ordinal_w_NOT_WORD_BOUNDARY E_w_NOT_WORD_BOUNDARY (by decide) (by decide) p e ha hc hk s m _ below hf ((Spec.applies_iff_loose hf).mp happ).1 ⟨rfl, State.Warmed39.refl s, rfl⟩ trivial
        exact ⟨n, _, h1, h2, h3, hpost _ _ _ _ _ _ ⟨Cond.after_iff.mpr rfl, Cond.after_iff.mpr (eq_i res_at (Term.int_eval (1)) rfl), trivial⟩ ⟨hq.1, hq.2.1, (hq.2.2.sift fun y hy => Or.inr (N y hy)).mono (by decide) (by decide)⟩⟩
      · obtain ⟨n, o, h1, h2, h3, _, L, rfl, ⟨rfl, N, -⟩, hq⟩ := rm0_k5tt l s _ hw tables_1 i0 i1 i2 (1 : Int32) (3 : Int32) w_NOT_WORD_BOUNDARY s.heap s.heap.size (Nat.le_refl _) hk0 hb0 ha0 S_NOT_WORD_BOUNDARY (by decide) F_ordinal_w_NOT_WORD_BOUNDARY E_w_NOT_WORD_BOUNDARY (by decide) (by decide) p e ha hc hk s m _ below hf ((Spec.applies_iff_loose hf).mp happ).1 ⟨rfl, State.Warmed39.refl s, rfl⟩ trivial
        exact ⟨n, _, h1, h2, h3, hpost _ _ _ _ _ _ ⟨Cond.after_iff.mpr rfl, Cond.after_iff.mpr (eq_i res_at (Term.int_eval (1)) rfl), trivial⟩ ⟨hq.1, hq.2.1, (hq.2.2.sift fun y hy => Or.inr (N y hy)).mono (by decide) (by decide)⟩⟩
    · rcases own_split4 (x := a) (by omega) (by omega) with rfl | rfl | rfl | rfl
      · obtain ⟨n, o, h1, h2, h3, _, L, rfl, ⟨rfl, N, -⟩, hq⟩ := rm0_k5ft l s _ hw tables_1 i0 i1 i2 (2 : Int32) (0 : Int32) w_NOT_WORD_BOUNDARY s.heap s.heap.size (Nat.le_refl _) hk0 hb0 ha0 S_NOT_WORD_BOUNDARY (by decide) F_ordinal_w_NOT_WORD_BOUNDARY E_w_NOT_WORD_BOUNDARY (by decide) (by decide) p e ha hc hk s m _ below hf ((Spec.applies_iff_loose hf).mp happ).1 ⟨rfl, State.Warmed39.refl s, rfl⟩ trivial
        exact ⟨n, _, h1, h2, h3, hpost _ _ _ _ _ _ ⟨Cond.after_iff.mpr rfl, Cond.after_iff.mpr (eq_i res_at (Term.int_eval (1)) rfl), trivial⟩ ⟨hq.1, hq.2.1, (hq.2.2.sift fun y hy => Or.inr (N y hy)).mono (by decide) (by decide)⟩⟩
      · obtain ⟨n, o, h1, h2, h3, _, L, rfl, ⟨rfl, N, -⟩, hq⟩ := rm0_k5ft l s _ hw tables_1 i0 i1 i2 (2 : Int32) (1 : Int32) w_NOT_WORD_BOUNDARY s.heap s.heap.size (Nat.le_refl _) hk0 hb0 ha0 S_NOT_WORD_BOUNDARY (by decide) F_ordinal_w_NOT_WORD_BOUNDARY E_w_NOT_WORD_BOUNDARY (by decide) (by decide) p e ha hc hk s m _ below hf ((Spec.applies_iff_loose hf).mp happ).1 ⟨rfl, State.Warmed39.refl s, rfl⟩ trivial
        exact ⟨n, _, h1, h2, h3, hpost _ _ _ _ _ _ ⟨Cond.after_iff.mpr rfl, Cond.after_iff.mpr (eq_i res_at (Term.int_eval (1)) rfl), trivial⟩ ⟨hq.1, hq.2.1, (hq.2.2.sift fun y hy => Or.inr (N y hy)).mono (by decide) (by decide)⟩⟩
      · obtain ⟨n, o, h1, h2, h3, _, L, rfl, ⟨rfl, N, -⟩, hq⟩ := rm0_k5ff l s _ hw tables_1 i0 i1 i2 (2 : Int32) (2 : Int32) w_NOT_WORD_BOUNDARY s.heap s.heap.size (Nat.le_refl _) hk0 hb0 ha0 S_NOT_WORD_BOUNDARY (by decide) F_ordinal_w_NOT_WORD_BOUNDARY E_w_NOT_WORD_BOUNDARY (by decide) (by decide) p e ha hc hk s m _ below hf ((Spec.applies_iff_loose hf).mp happ).1 ⟨rfl, State.Warmed39.refl s, rfl⟩ trivial
        exact ⟨n, _, h1, h2, h3, hpost _ _ _ _ _ _ ⟨Cond.after_iff.mpr rfl, Cond.after_iff.mpr (eq_i res_at (Term.int_eval (1)) rfl), trivial⟩ ⟨hq.1, hq.2.1, (hq.2.2.sift fun y hy => Or.inr (N y hy)).mono (by decide) (by decide)⟩⟩
      · obtain ⟨n, o, h1, h2, h3, _, L, rfl, ⟨rfl, N, -⟩, hq⟩ := rm0_k5ft l s _ hw tables_1 i0 i1 i2 (2 : Int32) (3 : Int32) w_NOT_WORD_BOUNDARY s.heap s.heap.size (Nat.le_refl _) hk0 hb0 ha0 S_NOT_WORD_BOUNDARY (by decide) F_ordinal_w_NOT_WORD_BOUNDARY E_w_NOT_WORD_BOUNDARY (by decide) (by decide) p e ha hc hk s m _ below hf ((Spec.applies_iff_loose hf).mp happ).1 ⟨rfl, State.Warmed39.refl s, rfl⟩ trivial
        exact ⟨n, _, h1, h2, h3, hpost _ _ _ _ _ _ ⟨Cond.after_iff.mpr rfl, Cond.after_iff.mpr (eq_i res_at (Term.int_eval (1)) rfl), trivial⟩ ⟨hq.1, hq.2.1, (hq.2.2.sift fun y hy => Or.inr (N y hy)).mono (by decide) (by decide)⟩⟩
    · rcases own_split4 (x := a) (by omega) (by omega) with rfl | rfl | rfl | rfl
      · obtain ⟨n, o, h1, h2, h3, _, L, rfl, ⟨rfl, N, -⟩, hq⟩ := rm0_k5tt l s _ hw tables_1 i0 i1 i2 (3 : Int32) (0 : Int32) w_NOT_WORD_BOUNDARY s.heap s.heap.size (Nat.le_refl _) hk0 hb0 ha0 S_NOT_WORD_BOUNDARY (by decide) F_ordinal_w_NOT_WORD_BOUNDARY E_w_NOT_WORD_BOUNDARY (by decide) (by decide) p e ha hc hk s m _ below hf ((Spec.applies_iff_loose hf).mp happ).1 ⟨rfl, State.Warmed39.refl s, rfl⟩ trivial
        exact ⟨n, _, h1, h2, h3, hpost _ _ _ _ _ _ ⟨Cond.after_iff.mpr rfl, Cond.after_iff.mpr (eq_i res_at (Term.int_eval (1)) rfl), trivial⟩ ⟨hq.1, hq.2.1, (hq.2.2.sift fun y hy => Or.inr (N y hy)).mono (by decide) (by decide)⟩⟩
      · obtain ⟨n, o, h1, h2, h3, _, L, rfl, ⟨rfl, N, -⟩, hq⟩ := rm0_k5tt l s _ hw tables_1 i0 i1 i2 (3 : Int32) (1 : Int32) w_NOT_WORD_BOUNDARY s.heap s.heap.size (Nat.le_refl _) hk0 hb0 ha0 S_NOT_WORD_BOUNDARY (by decide) F_ordinal_w_NOT_WORD_BOUNDARY E_w_NOT_WORD_BOUNDARY (by decide) (by decide) p e ha hc hk s m _ below hf ((Spec.applies_iff_loose hf).mp happ).1 ⟨rfl, State.Warmed39.refl s, rfl⟩ trivial
        exact ⟨n, _, h1, h2, h3, hpost _ _ _ _ _ _ ⟨Cond.after_iff.mpr rfl, Cond.after_iff.mpr (eq_i res_at (Term.int_eval (1)) rfl), trivial⟩ ⟨hq.1, hq.2.1, (hq.2.2.sift fun y hy => Or.inr (N y hy)).mono (by decide) (by decide)⟩⟩
      · obtain ⟨n, o, h1, h2, h3, _, L, rfl, ⟨rfl, N, -⟩, hq⟩ := rm0_k5tf l s _ hw tables_1 i0 i1 i2 (3 : Int32) (2 : Int32) w_NOT_WORD_BOUNDARY s.heap s.heap.size (Nat.le_refl _) hk0 hb0 ha0 S_NOT_WORD_BOUNDARY (by decide) F_ordinal_w_NOT_WORD_BOUNDARY E_w_NOT_WORD_BOUNDARY (by decide) (by decide) p e ha hc hk s m _ below hf ((Spec.applies_iff_loose hf).mp happ).1 ⟨rfl, State.Warmed39.refl s, rfl⟩ trivial
        exact ⟨n, _, h1, h2, h3, hpost _ _ _ _ _ _ ⟨Cond.after_iff.mpr rfl, Cond.after_iff.mpr (eq_i res_at (Term.int_eval (1)) rfl), trivial⟩ ⟨hq.1, hq.2.1, (hq.2.2.sift fun y hy => Or.inr (N y hy)).mono (by decide) (by decide)⟩⟩
      · obtain ⟨n, o, h1, h2, h3, _, L, rfl, ⟨rfl, N, -⟩, hq⟩ := rm0_k5tt l s _ hw tables_1 i0 i1 i2 (3 : Int32) (3 : Int32) w_NOT_WORD_BOUNDARY s.heap s.heap.size (Nat.le_refl _) hk0 hb0 ha0 S_NOT_WORD_BOUNDARY (by decide) F_ordinal_w_NOT_WORD_BOUNDARY E_w_NOT_WORD_BOUNDARY (by decide) (by decide) p e ha hc hk s m _ below hf ((Spec.applies_iff_loose hf).mp happ).1 ⟨rfl, State.Warmed39.refl s, rfl⟩ trivial
        exact ⟨n, _, h1, h2, h3, hpost _ _ _ _ _ _ ⟨Cond.after_iff.mpr rfl, Cond.after_iff.mpr (eq_i res_at (Term.int_eval (1)) rfl), trivial⟩ ⟨hq.1, hq.2.1, (hq.2.2.sift fun y hy => Or.inr (N y hy)).mono (by decide) (by decide)⟩⟩
theorem main_1_1 : Claimed_1_1 := comes_1 fun _ _ _ _ _ _ h hF => ⟨h.1, hF⟩
theorem main_1_2 : Claimed_1_2 := comes_1 fun _ _ _ _ _ _ h hF => ⟨h.2.1, hF⟩
end Jvm.Pilot.@@N@@
namespace Jvm.Pilot.@@N@@
open Jvm Jvm.ClassFile Sem Op Lib Jvm.Free Jvm.Stand Jvm.Pilot.@@N@@.Jvm.D
/-! MADE BY PROGRAM (witnessworld.py) out of the Statement's table words and the real class files: 12 classes; the members and pool entries that the words name. The judged class is class 1, her method 1. -/
namespace start1
open Jvm.ClassFile
def u (s : String) : CpInfo := .utf8 (stringToUtf16 s)
/-- a pool by its gaps: so many unusable entries, then the entry; so many at the end -/
def gap : Nat → List CpInfo → List CpInfo
  | 0, r => r
  | n + 1, r => .unusable :: gap n r
def poolList (es : List (Nat × CpInfo)) (last : Nat) : List CpInfo := es.foldr (fun e r => gap e.1 (e.2 :: r)) (gap last [])
def pool (es : List (Nat × CpInfo)) (last : Nat) : Array CpInfo := ⟨poolList es last⟩
def fileOf (pool : Array CpInfo) (this : Nat) (attrs : Array Attribute := #[]) (ms : Array MethodInfo := #[]) (fl : Nat := 33) (sup : Nat := 0) (ifs : Array Nat := #[]) (fds : Array FieldInfo := #[]) : ClassFile where
  minorVersion := 0
  majorVersion := 65
  constantPool := pool
  accessFlags := fl
  thisClass := this
  superClass := sup
  interfaces := ifs
  fields := fds
  methods := ms
  attributes := attrs
def plain (name : String) (sup : Option ClassId) : Class where
  name := name
  kind := .ordinary
  loader := none
  accessFlags := 33
  super := sup
  interfaces := #[]
  cf := none
  fields := #[]
  methods := #[]
  instanceTypes := #[]
  staticTypes := #[]
  resolved := #[]
  callSites := []
  init := .initialized
  statics := none
  mirror := none

def pool0 : Array CpInfo := pool [(5, u "<init>"), (0, u "()V"), (1, .class_ 10), (1, u "java/lang/Object")] 113

def k0m0 : Method := { name := "<init>", desc := "()V", sig := { parameters := [], returnType := none }, accessFlags := 1, code := none }
/-- java/lang/Object -/
def k0 : Class := { plain "java/lang/Object" none with
  accessFlags := 33
  interfaces := #[]
  cf := some (fileOf pool0 8 #[] #[{ accessFlags := 1, nameIndex := 5, descriptorIndex := 6, attributes := #[] }] 33 0 #[] #[])
  fields := #[]
  methods := #[k0m0]
  instanceTypes := #[]
  staticTypes := #[]
  resolved := Array.replicate 124 none
  statics := none }

def pool1 : Array CpInfo := pool [(2, .class_ 4), (1, u "java/lang/Object"), (0, u "<init>"), (0, u "()V"), (0, .integer 2147483647), (0, .fieldref 9 10), (0, .class_ 11), (0, .nameAndType 12 13), (0, u "com/example/termwell/termwell/core/text/RegexNode$Anchor"), (0, u "TEXT_START"), (0, u "Lcom/example/termwell/termwell/core/text/RegexNode$Anchor;"), (0, .fieldref 9 15), (0, .nameAndType 16 13), (0, u "TEXT_END"), (0, .fieldref 9 18), (0, .nameAndType 19 13), (0, u "LINE_START"), (0, .fieldref 9 21), (0, .nameAndType 22 13), (0, u "LINE_END"), (0, .fieldref 9 24), (0, .nameAndType 25 13), (0, u "WORD_BOUNDARY"), (0, .fieldref 9 27), (0, .nameAndType 28 13), (0, u "NOT_WORD_BOUNDARY"), (0, .integer 46267), (0, .methodref 9 31), (0, .nameAndType 32 33), (0, u "holds"), (0, u "(II)Z"), (0, .class_ 35), (0, u "com/example/termwell/termwell/core/text/AnchorHoldsPinLaw"), (2, u "law"), (0, u "(III)Z")] 7

def k1m0 : Method := { name := "<init>", desc := "()V", sig := { parameters := [], returnType := none }, accessFlags := 2, code := none }
def k1c1 : Code := { maxStack := 3, maxLocals := 9, code := code, exceptionTable := #[], attributes := #[] }
def k1m1 : Method := { name := "law", desc := "(III)Z", sig := { parameters := [.int, .int, .int], returnType := some .boolean }, accessFlags := 9, code := some k1c1 }
/-- com/example/termwell/termwell/core/text/AnchorHoldsPinLaw -/
def k1 : Class := { plain "com/example/termwell/termwell/core/text/AnchorHoldsPinLaw" (some 0) with
  accessFlags := 49
  interfaces := #[]
  cf := some (fileOf pool1 34 #[] #[{ accessFlags := 2, nameIndex := 5, descriptorIndex := 6, attributes := #[] }, { accessFlags := 9, nameIndex := 38, descriptorIndex := 39, attributes := #[] }] 49 2 #[] #[])
  fields := #[]
  methods := #[k1m0, k1m1]
  instanceTypes := #[]
  staticTypes := #[]
  resolved := Array.replicate 47 none
  statics := none }

def pool2 : Array CpInfo := pool [(1, .class_ 2), (0, u "java/lang/constant/Constable"), (0, .class_ 4), (0, u "java/lang/Object")] 6

/-- java/lang/constant/Constable -/
def k2 : Class := { plain "java/lang/constant/Constable" (some 0) with
  accessFlags := 1537
  interfaces := #[]
  cf := some (fileOf pool2 1 #[] #[] 1537 3 #[] #[])
  fields := #[]
  methods := #[]
  instanceTypes := #[]
  staticTypes := #[]
  resolved := Array.replicate 11 none
  statics := none }

def pool3 : Array CpInfo := pool [(1, .class_ 2), (0, u "java/lang/Comparable"), (0, .class_ 4), (0, u "java/lang/Object")] 7

/-- java/lang/Comparable -/
def k3 : Class := { plain "java/lang/Comparable" (some 0) with
  accessFlags := 1537
  interfaces := #[]
  cf := some (fileOf pool3 1 #[] #[] 1537 3 #[] #[])
  fields := #[]
  methods := #[]
  instanceTypes := #[]
  staticTypes := #[]
  resolved := Array.replicate 12 none
  statics := none }

def pool4 : Array CpInfo := pool [(1, .class_ 2), (0, u "java/io/Serializable"), (0, .class_ 4), (0, u "java/lang/Object")] 2

/-- java/io/Serializable -/
def k4 : Class := { plain "java/io/Serializable" (some 0) with
  accessFlags := 1537
  interfaces := #[]
  cf := some (fileOf pool4 1 #[] #[] 1537 3 #[] #[])
  fields := #[]
  methods := #[]
  instanceTypes := #[]
  staticTypes := #[]
  resolved := Array.replicate 7 none
  statics := none }

def pool5 : Array CpInfo := pool [(2, .class_ 4), (1, u "java/lang/Enum"), (0, u "name"), (0, u "Ljava/lang/String;"), (0, .fieldref 2 8), (0, .nameAndType 9 10), (0, u "ordinal"), (0, u "I"), (1, .class_ 14), (1, u "java/lang/Object"), (4, u "hash"), (86, .class_ 108), (1, u "java/lang/Enum$EnumDesc"), (2, .class_ 112), (0, u "java/lang/constant/Constable"), (0, .class_ 114), (0, u "java/lang/Comparable"), (0, .class_ 116), (0, u "java/io/Serializable"), (9, u "()I")] 77

def k5c0 : Code := { maxStack := 1, maxLocals := 1, code := jdk_37_method_2_code, exceptionTable := #[], attributes := #[] }
def k5m0 : Method := { name := "ordinal", desc := "()I", sig := { parameters := [], returnType := some .int }, accessFlags := 17, code := some k5c0 }
/-- java/lang/Enum -/
def k5 : Class := { plain "java/lang/Enum" (some 0) with
  accessFlags := 1057
  interfaces := #[2, 3, 4]
  cf := some (fileOf pool5 2 #[.nestMembers #[106]] #[{ accessFlags := 17, nameIndex := 9, descriptorIndex := 126, attributes := #[] }] 1057 12 #[111, 113, 115] #[{ accessFlags := 18, nameIndex := 5, descriptorIndex := 6, attributes := #[] }, { accessFlags := 18, nameIndex := 9, descriptorIndex := 10, attributes := #[] }, { accessFlags := 2, nameIndex := 19, descriptorIndex := 10, attributes := #[] }])
  fields := #[{ name := "name", type := (.object "java/lang/String"), accessFlags := 18, slot := 0, constantValue := 0 }, { name := "ordinal", type := .int, accessFlags := 18, slot := 1, constantValue := 0 }, { name := "hash", type := .int, accessFlags := 2, slot := 2, constantValue := 0 }]
  methods := #[k5m0]
  instanceTypes := #[(.object "java/lang/String"), .int, .int]
  staticTypes := #[]
  resolved := Array.replicate 204 none
  statics := none }

def pool6 : Array CpInfo := pool [(1, .class_ 2), (0, u "com/example/termwell/termwell/core/text/RegexNode$Anchor"), (2, u "TEXT_START"), (0, u "Lcom/example/termwell/termwell/core/text/RegexNode$Anchor;"), (2, u "TEXT_END"), (2, u "LINE_START"), (2, u "LINE_END"), (2, u "WORD_BOUNDARY"), (2, u "NOT_WORD_BOUNDARY"), (2, u "$VALUES"), (0, u "[Lcom/example/termwell/termwell/core/text/RegexNode$Anchor;"), (6, .class_ 34), (1, u "java/lang/Enum"), (8, u "ASCII_KINDS"), (0, u "[I"), (0, .methodref 1 46), (0, .nameAndType 47 48), (0, u "ordinal"), (0, u "()I"), (7, u "holds"), (0, u "(II)Z"), (4, u "WORD"), (36, u "EDGE"), (0, u "I"), (2, u "NEWLINE"), (2, u "OTHER"), (1, u "KINDS"), (18, .class_ 128), (0, u "com/example/termwell/termwell/core/text/RegexNode")] 19

def k6c0 : Code := { maxStack := 4, maxLocals := 3, code := prog_28_method_5_code, exceptionTable := #[], attributes := #[] }
def k6m0 : Method := { name := "holds", desc := "(II)Z", sig := { parameters := [.int, .int], returnType := some .boolean }, accessFlags := 0, code := some k6c0 }
/-- com/example/termwell/termwell/core/text/RegexNode$Anchor -/
def k6 : Class := { plain "com/example/termwell/termwell/core/text/RegexNode$Anchor" (some 5) with
  accessFlags := 16433
  interfaces := #[]
  cf := some (fileOf pool6 1 #[.nestHost 127] #[{ accessFlags := 0, nameIndex := 56, descriptorIndex := 57, attributes := #[] }] 16433 32 #[] #[{ accessFlags := 16409, nameIndex := 5, descriptorIndex := 6, attributes := #[] }, { accessFlags := 16409, nameIndex := 9, descriptorIndex := 6, attributes := #[] }, { accessFlags := 16409, nameIndex := 12, descriptorIndex := 6, attributes := #[] }, { accessFlags := 16409, nameIndex := 15, descriptorIndex := 6, attributes := #[] }, { accessFlags := 16409, nameIndex := 18, descriptorIndex := 6, attributes := #[] }, { accessFlags := 16409, nameIndex := 21, descriptorIndex := 6, attributes := #[] }, { accessFlags := 24, nameIndex := 99, descriptorIndex := 100, attributes := #[] }, { accessFlags := 24, nameIndex := 103, descriptorIndex := 100, attributes := #[] }, { accessFlags := 24, nameIndex := 62, descriptorIndex := 100, attributes := #[] }, { accessFlags := 24, nameIndex := 106, descriptorIndex := 100, attributes := #[] }, { accessFlags := 24, nameIndex := 108, descriptorIndex := 100, attributes := #[] }, { accessFlags := 26, nameIndex := 43, descriptorIndex := 44, attributes := #[] }, { accessFlags := 4122, nameIndex := 24, descriptorIndex := 25, attributes := #[] }])
  fields := #[{ name := "TEXT_START", type := (.object "com/example/termwell/termwell/core/text/RegexNode$Anchor"), accessFlags := 16409, slot := 0, constantValue := 0 }, { name := "TEXT_END", type := (.object "com/example/termwell/termwell/core/text/RegexNode$Anchor"), accessFlags := 16409, slot := 1, constantValue := 0 }, { name := "LINE_START", type := (.object "com/example/termwell/termwell/core/text/RegexNode$Anchor"), accessFlags := 16409, slot := 2, constantValue := 0 }, { name := "LINE_END", type := (.object "com/example/termwell/termwell/core/text/RegexNode$Anchor"), accessFlags := 16409, slot := 3, constantValue := 0 }, { name := "WORD_BOUNDARY", type := (.object "com/example/termwell/termwell/core/text/RegexNode$Anchor"), accessFlags := 16409, slot := 4, constantValue := 0 }, { name := "NOT_WORD_BOUNDARY", type := (.object "com/example/termwell/termwell/core/text/RegexNode$Anchor"), accessFlags := 16409, slot := 5, constantValue := 0 }, { name := "EDGE", type := .int, accessFlags := 24, slot := 6, constantValue := 0 }, { name := "NEWLINE", type := .int, accessFlags := 24, slot := 7, constantValue := 0 }, { name := "WORD", type := .int, accessFlags := 24, slot := 8, constantValue := 0 }, { name := "OTHER", type := .int, accessFlags := 24, slot := 9, constantValue := 0 }, { name := "KINDS", type := .int, accessFlags := 24, slot := 10, constantValue := 0 }, { name := "ASCII_KINDS", type := (.array .int), accessFlags := 26, slot := 11, constantValue := 0 }, { name := "$VALUES", type := (.array (.object "com/example/termwell/termwell/core/text/RegexNode$Anchor")), accessFlags := 4122, slot := 12, constantValue := 0 }]
  methods := #[k6m0]
  instanceTypes := #[(.object "java/lang/String"), .int, .int]
  staticTypes := #[(.object "com/example/termwell/termwell/core/text/RegexNode$Anchor"), (.object "com/example/termwell/termwell/core/text/RegexNode$Anchor"), (.object "com/example/termwell/termwell/core/text/RegexNode$Anchor"), (.object "com/example/termwell/termwell/core/text/RegexNode$Anchor"), (.object "com/example/termwell/termwell/core/text/RegexNode$Anchor"), (.object "com/example/termwell/termwell/core/text/RegexNode$Anchor"), .int, .int, .int, .int, .int, (.array .int), (.array (.object "com/example/termwell/termwell/core/text/RegexNode$Anchor"))]
  resolved := Array.replicate 148 none
  statics := some 0 }

def pool7 : Array CpInfo := pool [(1, u "java/lang/Cloneable"), (0, .class_ 1), (0, u "java/lang/Object"), (0, .class_ 3)] 3

/-- java/lang/Cloneable -/
def k7 : Class := { plain "java/lang/Cloneable" (some 0) with
  accessFlags := 1537
  interfaces := #[]
  cf := some (fileOf pool7 2 #[] #[] 1537 4 #[] #[])
  fields := #[]
  methods := #[]
  instanceTypes := #[]
  staticTypes := #[]
  resolved := Array.replicate 8 none
  statics := none }

/-- the primitive byte -/
def k8 : Class := { plain "byte" none with kind := .primitive 'B', accessFlags := 0x411 }
/-- [B -/
def k9 : Class := { plain "[B" (some 0) with kind := .array 8 .byte, interfaces := #[7, 4], accessFlags := 1041 }

/-- the primitive int -/
def k10 : Class := { plain "int" none with kind := .primitive 'I', accessFlags := 0x411 }
/-- [I -/
def k11 : Class := { plain "[I" (some 0) with kind := .array 10 .int, interfaces := #[7, 4], accessFlags := 1041 }

def heap : Heap := #[{ cls := 6, slots := #[.ref 1, .ref 2, .ref 3, .ref 5, .ref 6, .ref 4, .int 0, .int 0, .int 0, .int 0, .int 0, .null, .null], vm := .statics 6 },
  { cls := 6, slots := #[.null, .int 0, .int 0], vm := .none },
  { cls := 6, slots := #[.null, .int 1, .int 0], vm := .none },
  { cls := 6, slots := #[.null, .int 2, .int 0], vm := .none },
  { cls := 6, slots := #[.null, .int 5, .int 0], vm := .none },
  { cls := 6, slots := #[.null, .int 3, .int 0], vm := .none },
  { cls := 6, slots := #[.null, .int 4, .int 0], vm := .none }]
def classes : Array Class := #[k0, k1, k2, k3, k4, k5, k6, k7, k8, k9, k10, k11]
def interned : List (Array UInt16 × Addr) := []
def slotsUsed : Nat := 31
def theMethod : MethodId := ⟨1, 1⟩
def args0 : Array Value := #[.int 5, .int 2, .int 1]
def aboutOver (below : List Frame) : State where
  vm := { classes := classes, interned := interned.toArray }
  heap := heap
  slotsUsed := slotsUsed
  threads := #[{ frames := .invoking theMethod args0 :: below }]
def below0 : List Frame := [.native { method := ⟨0, 0⟩, args := #[] }]
def about1 : State := aboutOver below0
def p0 : Program := .bare "" "" ""
def e0 : Env := launch0.env 0 0 0
theorem w_frames : about1.frames = Frame.invoking theMethod args0 :: below0 := rfl
set_option maxRecDepth 65536 in
theorem w_args : argsFit about1.vm theMethod args0 = true := by decide +kernel
set_option maxRecDepth 65536 in
theorem w_heap : heapFits about1 = true := by decide +kernel
set_option maxRecDepth 65536 in
theorem w_runnable : about1.curStatus? = some .runnable := by decide +kernel
set_option maxRecDepth 65536 in
theorem w_alone : about1.alone = true := by decide +kernel
set_option maxRecDepth 65536 in
theorem w_named : about1.methodNamed? x = some theMethod := by decide +kernel
set_option maxRecDepth 65536 in
theorem w_hears : about1.hears theMethod below0 = true := by decide +kernel
set_option maxRecDepth 65536 in
theorem w_ripe : about1.ripe theMethod args0 below0 = true := by decide +kernel
theorem w_running : about1.status = .running := rfl
set_option maxRecDepth 65536 in
theorem w_room : about1.hasRoom e0.platform room_1 = true :=
  launch0.hasRoom_least _ room_1 (by decide +kernel) (by decide +kernel) (by decide +kernel) (by decide +kernel) (by decide +kernel) (by decide +kernel)
theorem allAtoms_all (ts : List Jvm.Cond) (a : Array Jvm.Value) (st : Jvm.State) : (allAtoms ts).before a st = ts.all (fun c => c.before a st) := by
  induction ts with
  | nil => rfl
  | cons c t ih =>
    show (Jvm.Cond.and c (allAtoms t)).before a st = _
    rw [Jvm.Cond.before_and, ih, List.all_cons]
def words1 : List Jvm.Cond := Jvm.Cond.code x code maxLocals ret :: tables_1
/-- a 'code' word, met by the world's own term for the bytes: nothing is compared byte by byte -/
theorem code_word {y : MethodName} {bytes : ByteArray} {mx : Nat} {rt : Option FieldType} {a : Array Value} {s : State} {m : MethodId} {meth : Method} {c : Code} (h1 : s.methodNamed? y = some m) (h2 : s.vm.method? m = some meth) (h3 : meth.code = some c) (h4 : c.code = bytes)
    (h5 : (c.maxLocals == mx && c.exceptionTable.isEmpty && decide (c.maxStack ≤ mostOperands) && decide (meth.sig.returnType = rt) && !meth.locks && decide (parseMethodDescriptor y.desc = some meth.sig)) = true) : (Jvm.Cond.code y bytes mx rt).before a s = true := by
  simp only [Bool.and_eq_true, beq_iff_eq, Bool.not_eq_true', decide_eq_true_eq] at h5
  obtain ⟨⟨⟨⟨⟨g1, g2⟩, g3⟩, g4⟩, g5⟩, g6⟩ := h5
  simp [Cond.before, Cond.holds, Cond.value, h1, h2, h3, h4, g1, g2, g3, g4, g5, g6]
def isCode : Jvm.Cond → Bool
  | .code _ _ _ _ => true
  | _ => false
theorem all_split {L : List Jvm.Cond} {P : Jvm.Cond → Bool} (h1 : L.all (fun c => isCode c || P c) = true) (h2 : ∀ c ∈ L.filter isCode, P c = true) : L.all P = true := by
  refine List.all_eq_true.mpr fun c hc => ?_
  have h := List.all_eq_true.mp h1 c hc
  rcases Bool.eq_false_or_eq_true (isCode c) with hi | hi
  · exact h2 c (List.mem_filter.mpr ⟨hc, hi⟩)
  · simpa [hi] using h
set_option maxRecDepth 65536 in
theorem w_c0 : (Jvm.Cond.code x code maxLocals ret).before args0 about1 = true := code_word (m := ⟨1, 1⟩) (meth := k1m1) (c := k1c1) (by decide +kernel) rfl rfl rfl (by decide +kernel)
set_option maxRecDepth 65536 in
theorem w_c1 : (Jvm.Cond.code ({ cls := "com/example/termwell/termwell/core/text/RegexNode$Anchor", name := "holds", desc := "(II)Z" } : Jvm.MethodName) prog_28_method_5_code (3 : Nat) (Option.some Jvm.ClassFile.FieldType.boolean)).before args0 about1 = true := code_word (m := ⟨6, 0⟩) (meth := k6m0) (c := k6c0) (by decide +kernel) rfl rfl rfl (by decide +kernel)
set_option maxRecDepth 65536 in
theorem w_c2 : (Jvm.Cond.code ({ cls := "java/lang/Enum", name := "ordinal", desc := "()I" } : Jvm.MethodName) jdk_37_method_2_code (1 : Nat) (Option.some Jvm.ClassFile.FieldType.int)).before args0 about1 = true := code_word (m := ⟨5, 0⟩) (meth := k5m0) (c := k5c0) (by decide +kernel) rfl rfl rfl (by decide +kernel)
def codes1 : List Jvm.Cond := [Jvm.Cond.code x code maxLocals ret, Jvm.Cond.code ({ cls := "com/example/termwell/termwell/core/text/RegexNode$Anchor", name := "holds", desc := "(II)Z" } : Jvm.MethodName) prog_28_method_5_code (3 : Nat) (Option.some Jvm.ClassFile.FieldType.boolean), Jvm.Cond.code ({ cls := "java/lang/Enum", name := "ordinal", desc := "()I" } : Jvm.MethodName) jdk_37_method_2_code (1 : Nat) (Option.some Jvm.ClassFile.FieldType.int)]
set_option maxRecDepth 65536 in
theorem codes_eq : words1.filter isCode = codes1 := rfl
theorem w_codes : ∀ c ∈ words1.filter isCode, c.before args0 about1 = true := by
  rw [codes_eq]
  intro c hc
  simp only [codes1, List.mem_cons, List.not_mem_nil, or_false] at hc
  rcases hc with rfl | rfl | rfl
  · exact w_c0
  · exact w_c1
  · exact w_c2
set_option maxRecDepth 65536 in
theorem w_t1 : (words1.take 24).all (fun c => isCode c || c.before args0 about1) = true := by decide +kernel
set_option maxRecDepth 65536 in
theorem w_t2 : (words1.drop 24).all (fun c => isCode c || c.before args0 about1) = true := by decide +kernel
theorem w_tables : (allAtoms (Jvm.Cond.code x code maxLocals ret :: tables_1)).before args0 about1 = true := by
  rw [allAtoms_all]
  show words1.all (fun c => c.before args0 about1) = true
  refine all_split ?_ w_codes
  rw [← List.take_append_drop 24 words1, List.all_append, w_t1, w_t2]
  rfl
set_option maxRecDepth 65536 in
theorem w_case : (Jvm.Cond.and given_1 narrow_1).before args0 about1 = true := by decide +kernel
theorem w_applies : (headSpec (Jvm.Cond.code x code maxLocals ret :: tables_1) room_1).applies x e0.platform about1 = true :=
  (Spec.applies_iff w_frames).mpr ⟨w_running, w_runnable, w_alone, w_named, w_hears, w_ripe, w_room, w_tables⟩
theorem atStart : AtStart classFile x code maxLocals ret World_1 tables_1 room_1 Calls_1 rest_1 Pre_1 launch0 p0 e0 about1 theMethod args0 below0 :=
  ⟨lists_1, trivial, launch0.admits_env _ _ _, launch0.least_env, fairChoices_fair.cas, fairChoices_fair.clock, w_frames, w_args, w_heap, w_applies, trivial, trivial, w_case⟩
end start1
theorem witness_1 : WitnessClaimed_1 := ⟨start1.p0, start1.e0, start1.about1, start1.theMethod, start1.args0, start1.below0, start1.atStart⟩
end Jvm.Pilot.@@N@@
