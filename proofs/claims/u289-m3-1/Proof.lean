import JvmDerived
import JvmDerived.Pilot.@@N@@Statement
import JvmDerived.Pilot.@@N@@Code
set_option linter.unusedVariables false
set_option linter.unusedSimpArgs false
namespace Jvm.RoadKit
open Sem ClassFile Op Lib Jvm.Stand Jvm.Free Jvm.LawKit
section New
variable {p : Program} {l : Launch} {e : Env} {R : Room} {s : State} {m : MethodId} {args : Array Value} {below : List Frame} {meth : Method} {c : Code} {T : State} {locs : List Loc} {cells slots : Nat}
theorem retI (X : Stand p l e R s m args below meth c T locs cells slots) (hx : p.tables.exec = Jvm.exec) {pc : Nat} {Ls : Array Slot} {z : Int32} {rest : List Value} (hret : meth.sig.returnType = some .int) (hd : decode c.code pc = .ok (.ireturn, 1)) {fs : List Frame}
    (hl : ∀ (f : JFrame) (acts : List Action), f.method = m → f.locked = none → f.entered = [] → (doReturn e (T.setTop f) acts (some (.int z))).1 = T.setFrames fs) : Steps p.tables e below (T.setTop (mkF m pc Ls (.int z :: rest))) (T.setFrames fs) := by
  have hm' : T.vm.method? m = some meth := X.method'
  have hn : narrow .int (.int z) = .int z := rfl
  show Steps p.tables e below (T.setTop { method := m, pc := pc, locals := Ls, stack := _ :: rest, locked := none }) _
  jvm_step X.here [X.here.top, hx, hd, hm', hret, hn]
  first | (intro acts; rw [hl _ acts rfl rfl rfl]) | rw [hl _ _ rfl rfl rfl]
  exact Steps.refl _
end New
end Jvm.RoadKit
namespace Jvm.Pilot.@@N@@
open Jvm Jvm.ClassFile Sem Op Lib Jvm.Free Jvm.Stand Jvm.LawKit Jvm.RoadKit Bundle Jvm.Pilot.@@N@@.Jvm.D

/-- what a body leaves that returns r and writes nothing -/
def QR (r : Value) (h0 : Heap) (n0 : Nat) (v : Option Value) (h : Heap) (L : List Loc) : Prop := v = some r ∧ Fr n0 L ∧ h = h0
/-- what a body leaves that returns nothing and writes nothing -/
def QN (h0 : Heap) (n0 : Nat) (v : Option Value) (h : Heap) (L : List Loc) : Prop := v = none ∧ Fr n0 L ∧ h = h0

/-- a constant of the enum: its ordinal, its symbol's bytes -/
def own_C (Z : State) (h : Heap) (a : Addr) (i n : Int32) (bs : List Value) : Prop := Exa Z h a "com/example/balanza/balanza/logic/Comparison" ∧ Fld Z h a "java/lang/Enum" "ordinal" "I" (.int i) ∧ ∃ (sy va : Addr) (k : ClassId), Fld Z h a "com/example/balanza/balanza/logic/Comparison" "symbol" "Ljava/lang/String;" (.ref sy) ∧ Exa Z h sy "java/lang/String" ∧ Fld Z h sy "java/lang/String" "value" "[B" (.ref va) ∧ Fld Z h sy "java/lang/String" "coder" "B" (.int (0 : Int32)) ∧ Arv Z h va k .byte n bs (.int (0 : Int32))
theorem own_C.keep {Z : State} {h h' : Heap} {a : Addr} {i n : Int32} {bs : List Value} (F : own_C Z h a i n bs) (K : Keep h h' []) : own_C Z h' a i n bs := by
  obtain ⟨e, o, sy, va, k, f1, e1, f2, f3, v⟩ := F
  exact ⟨e.keep K, o.keep K nin0, sy, va, k, f1.keep K nin0, e1.keep K, f2.keep K nin0, f3.keep K nin0, v.keep K nin0⟩
theorem own_size {s : State} {args : Array Value} {t : Term} {x : Addr} {cl : Cell} {z : Int32} (ht : t.eval args s none [] s = some (.ref x)) (ha : s.arrayAt? x = some cl) (h : (Term.length t).eval args s none [] s = some (.int z)) : cl.slots.size < 2 ^ 31 ∧ cl.slots.size.toInt32 = z := by
  simp [Term.eval, ht, ha] at h
  exact h
theorem own_startA {s : State} {args : Array Value} {t : Term} {i n : Int32}
    (h1 : (Jvm.Cond.exactly t "com/example/balanza/balanza/logic/Comparison").value args s none s [] = some true) (h2 : (Jvm.Cond.exactly (.field t "com/example/balanza/balanza/logic/Comparison" "symbol" "Ljava/lang/String;") "java/lang/String").value args s none s [] = some true)
    (h3 : (Jvm.Cond.arrayOf (.field (.field t "com/example/balanza/balanza/logic/Comparison" "symbol" "Ljava/lang/String;") "java/lang/String" "value" "[B") .byte).value args s none s [] = some true) (h4 : (Jvm.Cond.eq (.length (.field (.field t "com/example/balanza/balanza/logic/Comparison" "symbol" "Ljava/lang/String;") "java/lang/String" "value" "[B")) (.int n)).value args s none s [] = some true)
    (h5 : (Jvm.Cond.eq (.field (.field t "com/example/balanza/balanza/logic/Comparison" "symbol" "Ljava/lang/String;") "java/lang/String" "coder" "B") (.int (0 : Int32))).value args s none s [] = some true) (h7 : (Jvm.Cond.eq (.field t "java/lang/Enum" "ordinal" "I") (.int i)).value args s none s [] = some true) :
    ∃ (a sy va : Addr) (cl : Cell), t.eval args s none [] s = some (.ref a) ∧ Exa s s.heap a "com/example/balanza/balanza/logic/Comparison" ∧ Fld s s.heap a "java/lang/Enum" "ordinal" "I" (.int i) ∧ Fld s s.heap a "com/example/balanza/balanza/logic/Comparison" "symbol" "Ljava/lang/String;" (.ref sy) ∧ Exa s s.heap sy "java/lang/String" ∧ Fld s s.heap sy "java/lang/String" "value" "[B" (.ref va) ∧ Fld s s.heap sy "java/lang/String" "coder" "B" (.int (0 : Int32)) ∧
      (Term.field (.field t "com/example/balanza/balanza/logic/Comparison" "symbol" "Ljava/lang/String;") "java/lang/String" "value" "[B").eval args s none [] s = some (.ref va) ∧ Arr s s.heap va cl .byte ∧ cl.slots.size < 2 ^ 31 ∧ cl.slots.size.toInt32 = n := by
  obtain ⟨a, ea⟩ := exa_v h1
  obtain ⟨sy, es⟩ := exa_v h2
  obtain ⟨va, ev⟩ := arr_v h3
  obtain ⟨cl, Ar⟩ := Arr.start ev h3
  have e4 := eqv_i (y := n) rfl h4
  have e5 := eqv_i (y := 0) rfl h5
  have e7 := eqv_i (y := i) rfl h7
  have ha : s.arrayAt? va = some cl := IntBox.arrayAt_of Ar.1 Ar.2.1 Ar.2.2
  obtain ⟨q1, q2⟩ := own_size ev ha e4
  exact ⟨a, sy, va, cl, ea, Exa.start ea h1, Fld.start ((fld_at ea).symm.trans e7), Fld.start ((fld_at ea).symm.trans es), Exa.start es h2, Fld.start ((fld_at es).symm.trans ev), Fld.start ((fld_at es).symm.trans e5), ev, Ar, q1, q2⟩
theorem own_el {s : State} {args : Array Value} {t : Term} {x : Addr} {cl : Cell} {j y : Int32} (ht : t.eval args s none [] s = some (.ref x)) (hc : s.heap[x]? = some cl) (h : (Jvm.Cond.eq (.elem t (.int j)) (.int y)).value args s none s [] = some true) : cl.slots[j.toNatClampNeg]? = some (.int y) :=
  (elem_in (eqv_i (y := y) rfl h) ht rfl hc).2
/-- o: the order as it is, or one of -1 to 2 -/
def own_o (k d o : Int32) : Prop := (¬ (((k >>> ((2 : Int32) &&& 31)) &&& (1 : Int32)) = (0 : Int32)) ∧ o = d) ∨ (((k >>> ((2 : Int32) &&& 31)) &&& (1 : Int32)) = (0 : Int32) ∧ o = ((d &&& (3 : Int32)) - (1 : Int32)))
theorem own_o_all (k d : Int32) : ∃ o, own_o k d o := by
  by_cases h : ((k >>> ((2 : Int32) &&& 31)) &&& (1 : Int32)) = (0 : Int32)
  · exact ⟨_, Or.inr ⟨h, rfl⟩⟩
  · exact ⟨_, Or.inl ⟨h, rfl⟩⟩
/-- what the law expects: by o's sign -/
def own_x (lt gt eq o x : Int32) : Prop := (o < (0 : Int32) ∧ x = lt) ∨ (¬ (o < (0 : Int32)) ∧ o = (0 : Int32) ∧ x = eq) ∨ (¬ (o < (0 : Int32)) ∧ ¬ (o = (0 : Int32)) ∧ x = gt)
theorem own_x_all (lt gt eq o : Int32) : ∃ x, own_x lt gt eq o x := by
  by_cases h : o < (0 : Int32)
  · exact ⟨_, Or.inl ⟨h, rfl⟩⟩
  · by_cases q : o = (0 : Int32)
    · exact ⟨_, Or.inr (Or.inl ⟨h, q, rfl⟩)⟩
    · exact ⟨_, Or.inr (Or.inr ⟨h, q, rfl⟩)⟩
theorem own_pos {o : Int32} (h : ¬ (o < (0 : Int32))) (q : ¬ (o = (0 : Int32))) : (0 : Int32) < o := by
  have e0 : (0 : Int32).toInt = 0 := by decide
  rw [Int32.lt_iff_toInt_lt] at h ⊢
  have : o.toInt ≠ 0 := fun z => q (Int32.toInt_inj.mp (by rw [z, e0]))
  omega
theorem own_npos {o : Int32} (h : o < (0 : Int32) ∨ o = (0 : Int32)) : ¬ ((0 : Int32) < o) := by
  have e0 : (0 : Int32).toInt = 0 := by decide
  rcases h with h | rfl
  · rw [Int32.lt_iff_toInt_lt] at h ⊢
    omega
  · decide
/-- what holds(o) answers, by the ordinal -/
def own_r0 (o r : Int32) : Prop := (o < (0 : Int32) ∧ r = 1) ∨ (¬ (o < (0 : Int32)) ∧ r = 0)
def own_r1 (o r : Int32) : Prop := (¬ ((0 : Int32) < o) ∧ r = 1) ∨ ((0 : Int32) < o ∧ r = 0)
def own_r2 (o r : Int32) : Prop := ((0 : Int32) < o ∧ r = 1) ∨ (¬ ((0 : Int32) < o) ∧ r = 0)
def own_r3 (o r : Int32) : Prop := (¬ (o < (0 : Int32)) ∧ r = 1) ∨ (o < (0 : Int32) ∧ r = 0)
theorem own_rx0 {o x : Int32} (h : own_x 1 0 0 o x) : own_r0 o x := by
  rcases h with ⟨h, e⟩ | ⟨h, q, e⟩ | ⟨h, q, e⟩
  · exact Or.inl ⟨h, e⟩
  · exact Or.inr ⟨h, e⟩
  · exact Or.inr ⟨h, e⟩
theorem own_rx1 {o x : Int32} (h : own_x 1 0 1 o x) : own_r1 o x := by
  rcases h with ⟨h, e⟩ | ⟨h, q, e⟩ | ⟨h, q, e⟩
  · exact Or.inl ⟨own_npos (Or.inl h), e⟩
  · exact Or.inl ⟨own_npos (Or.inr q), e⟩
  · exact Or.inr ⟨own_pos h q, e⟩
theorem own_rx2 {o x : Int32} (h : own_x 0 1 0 o x) : own_r2 o x := by
  rcases h with ⟨h, e⟩ | ⟨h, q, e⟩ | ⟨h, q, e⟩
  · exact Or.inr ⟨own_npos (Or.inl h), e⟩
  · exact Or.inr ⟨own_npos (Or.inr q), e⟩
  · exact Or.inl ⟨own_pos h q, e⟩
theorem own_rx3 {o x : Int32} (h : own_x 0 1 1 o x) : own_r3 o x := by
  rcases h with ⟨h, e⟩ | ⟨h, q, e⟩ | ⟨h, q, e⟩
  · exact Or.inr ⟨h, e⟩
  · exact Or.inl ⟨h, e⟩
  · exact Or.inl ⟨h, e⟩
theorem own_and3 (k : Int32) : k &&& (3 : Int32) = (0 : Int32) ∨ k &&& (3 : Int32) = (1 : Int32) ∨ k &&& (3 : Int32) = (2 : Int32) ∨ k &&& (3 : Int32) = (3 : Int32) := by
  have h := c_mask k (3 : Int32) 2 (by decide) (by decide)
  have q : (k &&& (3 : Int32)).toInt = 0 ∨ (k &&& (3 : Int32)).toInt = 1 ∨ (k &&& (3 : Int32)).toInt = 2 ∨ (k &&& (3 : Int32)).toInt = 3 := by omega
  rcases q with q | q | q | q
  · exact Or.inl (Int32.toInt_inj.mp (by rw [q]; decide))
  · exact Or.inr (Or.inl (Int32.toInt_inj.mp (by rw [q]; decide)))
  · exact Or.inr (Or.inr (Or.inl (Int32.toInt_inj.mp (by rw [q]; decide))))
  · exact Or.inr (Or.inr (Or.inr (Int32.toInt_inj.mp (by rw [q]; decide))))

theorem d1_0 : decode prog_49_method_4_code 0 = .ok (.aload_n 0, 1) := by decide +kernel
theorem d1_1 : decode prog_49_method_4_code 1 = .ok (.getfield 35, 3) := by decide +kernel
theorem d1_4 : decode prog_49_method_4_code 4 = .ok (.areturn, 1) := by decide +kernel
theorem pn_1 : plainName "com/example/balanza/balanza/logic/Comparison" = true := by first | (simp [plainName, overriddenIn]; done) | decide +kernel
theorem ef_1 (m : MethodId) (x0 : Addr) : entryFrame m #[(.ref x0)] 1 = mkF m 0 #[.val (.ref x0)] [] := by first | (simp [entryFrame, mkF, argsToLocals, Value.category]; done) | rfl
def Q1 (Z : State) (a1 : Addr) (w2 : Addr) (h0 : Heap) (n0 : Nat) (v : Option Value) (h : Heap) (L : List Loc) : Prop := v = some (.ref w2) ∧ Fr n0 L ∧ h = h0
set_option maxRecDepth 65536 in
set_option maxHeartbeats 40000000 in
theorem rm1 (l : Launch) (Z : State) (a0 : Array Value) (hw : ∀ d ∈ tables_1, d.before a0 Z = true) (ws : List Jvm.Cond) (a1 : Addr) (w2 : Addr) (h0 : Heap) (n0 : Nat) (Z0 : n0 ≤ h0.size) (F_symbol_a1 : Fld Z h0 a1 "com/example/balanza/balanza/logic/Comparison" "symbol" "Ljava/lang/String;" (.ref w2)) :
    MetFree l (⟨"com/example/balanza/balanza/logic/Comparison", "symbol", "()Ljava/lang/String;"⟩ : MethodName) (head1 (Jvm.Cond.code (⟨"com/example/balanza/balanza/logic/Comparison", "symbol", "()Ljava/lang/String;"⟩ : MethodName) prog_49_method_4_code 1 (some (.object "java/lang/String")) :: ws) ({ frames := 0, cells := 0, slots := 0, locals := 0 } : Room)) (fun a U => a = #[(.ref a1)] ∧ Z.Warmed39 U.vm ∧ U.heap = h0) (fun _ _ _ _ _ => True) (fun _ U o U' => ∃ v L, o = .returned v ∧ Q1 Z a1 w2 h0 n0 v U'.heap L ∧ FrameEnd U o U' L ({ frames := 0, cells := 0, slots := 0, locals := 0 } : Room).cells ({ frames := 0, cells := 0, slots := 0, locals := 0 } : Room).slots) := by
  refine MetFree.of_bodySF (plainFor_of_name pn_1) hisR ?_
  intro p e s m args below meth c s₁ Bd hml0 hP hK
  obtain ⟨rfl, hZ, hh⟩ := hP
  have hx := Bd.exec
  have hby := Bd.bytes
  have hml : c.maxLocals = 1 := hml0
  have hown : s.vm.findClass "com/example/balanza/balanza/logic/Comparison" = some m.cls := findClass_of_methodNamed Bd.named
  have hnm := (name_of_methodNamed Bd.named Bd.method).1
  have X0 : Stand p l e ({ frames := 0, cells := 0, slots := 0, locals := 0 } : Room) s m #[(.ref a1)] below meth c s₁ [] 0 0 := Stand.of_body Bd
  have e0 : s₁.heap = h0 := by rw [← hh, Bd.state]; rfl
  have N0 := Fr.nil n0
  have pre0 : ∀ t, Steps p.tables e below (s₁.setTop (mkF m 0 #[.val (.ref a1)] [])) t → Steps p.tables e below (s₁.setTop (entryFrame m #[(.ref a1)] 1)) t := fun t k => castTop (ef_1 m a1) k
  obtain ⟨T3, X3, e3, st3⟩ := getF X0 hx hZ hown (host := "") (Or.inl (hw _ (List.mem_of_getElem? (i := 17) rfl))) Via.refl e0 F_symbol_a1 (g := (mkF m 1 #[.val (.ref a1)] [(.ref a1)])) rfl rfl (hb hby d1_1)
  obtain ⟨fs, hr, hrun, hended, hW, hsame⟩ := X3.leave (v := some (.ref w2)) (fun h => by rw [Bd.returns] at h; cases h)
  refine ⟨_, _, pre0 _ ?_, hrun, hended, _, _, rfl, ?_, ⟨_, rfl⟩, hW, hsame.mono (by decide) (by decide)⟩
  · show Steps p.tables e below (s₁.setTop (mkF m 0 #[.val (.ref a1)] [])) _
    refine XS.aloadN X0.here hx rfl (hb hby d1_0) rfl rfl ?_
    show Steps p.tables e below (s₁.setTop (mkF m 1 #[.val (.ref a1)] [(.ref a1)])) _
    refine st3 _ ?_
    show Steps p.tables e below (T3.setTop (mkF m 4 #[.val (.ref a1)] [(.ref w2)])) _
    jvm_step X3.here [X3.here.top, hx, (hb hby d1_4), X3.method', Bd.returns, Value.isRef, FieldType.isReference]
    first | (intro acts; rw [hr _ acts rfl rfl rfl]) | rw [hr _ _ rfl rfl rfl]
    exact Steps.refl _
  · show Q1 Z a1 w2 h0 n0 _ T3.heap _
    rw [e3]
    exact ⟨rfl, N0, rfl⟩

theorem d2_0 : decode jdk_42_method_55_code 0 = .ok (.aload_n 0, 1) := by decide +kernel
theorem d2_1 : decode jdk_42_method_55_code 1 = .ok (.getfield 9, 3) := by decide +kernel
theorem d2_4 : decode jdk_42_method_55_code 4 = .ok (.arraylength, 1) := by decide +kernel
theorem d2_5 : decode jdk_42_method_55_code 5 = .ok (.ifCond .ne 7, 3) := by decide +kernel
theorem d2_12 : decode jdk_42_method_55_code 12 = .ok (.iconst 0, 1) := by decide +kernel
theorem d2_13 : decode jdk_42_method_55_code 13 = .ok (.ireturn, 1) := by decide +kernel
theorem pn_2 : plainName "java/lang/String" = true := by first | (simp [plainName, overriddenIn]; done) | decide +kernel
theorem ef_2 (m : MethodId) (x0 : Addr) : entryFrame m #[(.ref x0)] 1 = mkF m 0 #[.val (.ref x0)] [] := by first | (simp [entryFrame, mkF, argsToLocals, Value.category]; done) | rfl
def Q2 (Z : State) (a1 : Addr) (w2 : Addr) (cl_w2 : Cell) (z_w2 : Int32) (h0 : Heap) (n0 : Nat) (v : Option Value) (h : Heap) (L : List Loc) : Prop := v = some (.int (0 : Int32)) ∧ Fr n0 L ∧ h = h0
set_option maxRecDepth 65536 in
set_option maxHeartbeats 40000000 in
theorem rm2 (l : Launch) (Z : State) (a0 : Array Value) (hw : ∀ d ∈ tables_1, d.before a0 Z = true) (ws : List Jvm.Cond) (a1 : Addr) (w2 : Addr) (cl_w2 : Cell) (z_w2 : Int32) (h0 : Heap) (n0 : Nat) (Z0 : n0 ≤ h0.size) (F_value_a1 : Fld Z h0 a1 "java/lang/String" "value" "[B" (.ref w2)) (Ar_w2 : Arr Z h0 w2 cl_w2 .byte) (S_w2 : cl_w2.slots.size = z_w2.toNatClampNeg) (N_w2 : ¬ z_w2 < 0) (hc5 : ¬ (z_w2 = (0 : Int32))) :
    MetFree l (⟨"java/lang/String", "isEmpty", "()Z"⟩ : MethodName) (head1 (Jvm.Cond.code (⟨"java/lang/String", "isEmpty", "()Z"⟩ : MethodName) jdk_42_method_55_code 1 (some .boolean) :: ws) ({ frames := 0, cells := 0, slots := 0, locals := 0 } : Room)) (fun a U => a = #[(.ref a1)] ∧ Z.Warmed39 U.vm ∧ U.heap = h0) (fun _ _ _ _ _ => True) (fun _ U o U' => ∃ v L, o = .returned v ∧ Q2 Z a1 w2 cl_w2 z_w2 h0 n0 v U'.heap L ∧ FrameEnd U o U' L ({ frames := 0, cells := 0, slots := 0, locals := 0 } : Room).cells ({ frames := 0, cells := 0, slots := 0, locals := 0 } : Room).slots) := by
  refine MetFree.of_bodySF (plainFor_of_name pn_2) hisR ?_
  intro p e s m args below meth c s₁ Bd hml0 hP hK
  obtain ⟨rfl, hZ, hh⟩ := hP
  have hx := Bd.exec
  have hby := Bd.bytes
  have hml : c.maxLocals = 1 := hml0
  have hown : s.vm.findClass "java/lang/String" = some m.cls := findClass_of_methodNamed Bd.named
  have hnm := (name_of_methodNamed Bd.named Bd.method).1
  have X0 : Stand p l e ({ frames := 0, cells := 0, slots := 0, locals := 0 } : Room) s m #[(.ref a1)] below meth c s₁ [] 0 0 := Stand.of_body Bd
  have e0 : s₁.heap = h0 := by rw [← hh, Bd.state]; rfl
  have N0 := Fr.nil n0
  have pre0 : ∀ t, Steps p.tables e below (s₁.setTop (mkF m 0 #[.val (.ref a1)] [])) t → Steps p.tables e below (s₁.setTop (entryFrame m #[(.ref a1)] 1)) t := fun t k => castTop (ef_2 m a1) k
  obtain ⟨T3, X3, e3, st3⟩ := getF X0 hx hZ hown (host := "") (Or.inl (hw _ (List.mem_of_getElem? (i := 25) rfl))) Via.refl e0 F_value_a1 (g := (mkF m 1 #[.val (.ref a1)] [(.ref a1)])) rfl rfl (hb hby d2_1)
  obtain ⟨fs, hr, hrun, hended, hW, hsame⟩ := X3.leave (v := some (.int (0 : Int32))) (fun h => by rw [Bd.returns] at h; cases h)
  refine ⟨_, _, pre0 _ ?_, hrun, hended, _, _, rfl, ?_, ⟨_, rfl⟩, hW, hsame.mono (by decide) (by decide)⟩
  · show Steps p.tables e below (s₁.setTop (mkF m 0 #[.val (.ref a1)] [])) _
    refine XS.aloadN X0.here hx rfl (hb hby d2_0) rfl rfl ?_
    show Steps p.tables e below (s₁.setTop (mkF m 1 #[.val (.ref a1)] [(.ref a1)])) _
    refine st3 _ ?_
    show Steps p.tables e below (T3.setTop (mkF m 4 #[.val (.ref a1)] [(.ref w2)])) _
    refine X3.arraylength hx (by rw [e3]; exact Ar_w2.1) (State.isArrayOf_alike hZ.alike Ar_w2.2.1) (g := (mkF m 4 #[.val (.ref a1)] [(.ref w2)])) rfl rfl (hb hby d2_4) _ ?_
    rw [len_of S_w2 N_w2]
    show Steps p.tables e below (T3.setTop (mkF m 5 #[.val (.ref a1)] [(.int z_w2)])) _
    refine XS.ifYes X3.here hx rfl (pc0 := 5) (pc' := 12) rfl (hb hby d2_5) rfl ((if0 _ _).trans (feq hc5).2) (by decide) (by decide) ?_
    show Steps p.tables e below (T3.setTop (mkF m 12 #[.val (.ref a1)] [])) _
    refine XS.iconst X3.here hx rfl (hb hby d2_12) ?_
    show Steps p.tables e below (T3.setTop (mkF m 13 #[.val (.ref a1)] [(.int (0 : Int32))])) _
    exact retN X3 hx (t := .boolean) Bd.returns (by simp) (hb hby d2_13) hr
  · show Q2 Z a1 w2 cl_w2 z_w2 h0 n0 _ T3.heap _
    rw [e3]
    exact ⟨rfl, N0, rfl⟩

theorem d4_0 : decode jdk_42_method_154_code 0 = .ok (.getstatic 38, 3) := by decide +kernel
theorem d4_3 : decode jdk_42_method_154_code 3 = .ok (.ifCond .eq 14, 3) := by decide +kernel
theorem d4_6 : decode jdk_42_method_154_code 6 = .ok (.aload_n 0, 1) := by decide +kernel
theorem d4_7 : decode jdk_42_method_154_code 7 = .ok (.getfield 15, 3) := by decide +kernel
theorem d4_10 : decode jdk_42_method_154_code 10 = .ok (.ifCond .ne 7, 3) := by decide +kernel
theorem d4_13 : decode jdk_42_method_154_code 13 = .ok (.iconst 1, 1) := by decide +kernel
theorem d4_14 : decode jdk_42_method_154_code 14 = .ok (.goto 4, 3) := by decide +kernel
theorem d4_18 : decode jdk_42_method_154_code 18 = .ok (.ireturn, 1) := by decide +kernel
theorem pn_4 : plainName "java/lang/String" = true := by first | (simp [plainName, overriddenIn]; done) | decide +kernel
theorem ef_4 (m : MethodId) (x0 : Addr) : entryFrame m #[(.ref x0)] 1 = mkF m 0 #[.val (.ref x0)] [] := by first | (simp [entryFrame, mkF, argsToLocals, Value.category]; done) | rfl
def Q4 (Z : State) (a1 : Addr) (w2 : Int32) (w4 : Int32) (h0 : Heap) (n0 : Nat) (v : Option Value) (h : Heap) (L : List Loc) : Prop := v = some (.int (1 : Int32)) ∧ Fr n0 L ∧ h = h0
set_option maxRecDepth 65536 in
set_option maxHeartbeats 40000000 in
theorem rm4 (l : Launch) (Z : State) (a0 : Array Value) (hw : ∀ d ∈ tables_1, d.before a0 Z = true) (ws : List Jvm.Cond) (a1 : Addr) (w2 : Int32) (w4 : Int32) (h0 : Heap) (n0 : Nat) (Z0 : n0 ≤ h0.size) (S_COMPACT_STRINGS : Sta Z h0 "java/lang/String" "COMPACT_STRINGS" "Z" (.int w2)) (F_coder_a1 : Fld Z h0 a1 "java/lang/String" "coder" "B" (.int w4)) (hc3 : ¬ (w2 = (0 : Int32))) (hc10 : w4 = (0 : Int32)) :
    MetFree l (⟨"java/lang/String", "isLatin1", "()Z"⟩ : MethodName) (head1 (Jvm.Cond.code (⟨"java/lang/String", "isLatin1", "()Z"⟩ : MethodName) jdk_42_method_154_code 1 (some .boolean) :: ws) ({ frames := 0, cells := 0, slots := 0, locals := 0 } : Room)) (fun a U => a = #[(.ref a1)] ∧ Z.Warmed39 U.vm ∧ U.heap = h0) (fun _ _ _ _ _ => True) (fun _ U o U' => ∃ v L, o = .returned v ∧ Q4 Z a1 w2 w4 h0 n0 v U'.heap L ∧ FrameEnd U o U' L ({ frames := 0, cells := 0, slots := 0, locals := 0 } : Room).cells ({ frames := 0, cells := 0, slots := 0, locals := 0 } : Room).slots) := by
  refine MetFree.of_bodySF (plainFor_of_name pn_4) hisR ?_
  intro p e s m args below meth c s₁ Bd hml0 hP hK
  obtain ⟨rfl, hZ, hh⟩ := hP
  have hx := Bd.exec
  have hby := Bd.bytes
  have hml : c.maxLocals = 1 := hml0
  have hown : s.vm.findClass "java/lang/String" = some m.cls := findClass_of_methodNamed Bd.named
  have hnm := (name_of_methodNamed Bd.named Bd.method).1
  have X0 : Stand p l e ({ frames := 0, cells := 0, slots := 0, locals := 0 } : Room) s m #[(.ref a1)] below meth c s₁ [] 0 0 := Stand.of_body Bd
  have e0 : s₁.heap = h0 := by rw [← hh, Bd.state]; rfl
  have N0 := Fr.nil n0
  have pre0 : ∀ t, Steps p.tables e below (s₁.setTop (mkF m 0 #[.val (.ref a1)] [])) t → Steps p.tables e below (s₁.setTop (entryFrame m #[(.ref a1)] 1)) t := fun t k => castTop (ef_4 m a1) k
  obtain ⟨T3, X3, e3, st3⟩ := getS2 X0 hx hZ hown (host := "") (Or.inl (hw _ (List.mem_of_getElem? (i := 37) rfl))) Via.refl e0 S_COMPACT_STRINGS (g := (mkF m 0 #[.val (.ref a1)] [])) rfl (hb hby d4_0)
  obtain ⟨T5, X5, e5, st5⟩ := getF X3 hx hZ hown (host := "") (Or.inl (hw _ (List.mem_of_getElem? (i := 38) rfl))) Via.refl e3 F_coder_a1 (g := (mkF m 7 #[.val (.ref a1)] [(.ref a1)])) rfl rfl (hb hby d4_7)
  obtain ⟨fs, hr, hrun, hended, hW, hsame⟩ := X5.leave (v := some (.int (1 : Int32))) (fun h => by rw [Bd.returns] at h; cases h)
  refine ⟨_, _, pre0 _ ?_, hrun, hended, _, _, rfl, ?_, ⟨_, rfl⟩, hW, hsame.mono (by decide) (by decide)⟩
  · show Steps p.tables e below (s₁.setTop (mkF m 0 #[.val (.ref a1)] [])) _
    refine st3 _ ?_
    show Steps p.tables e below (T3.setTop (mkF m 3 #[.val (.ref a1)] [(.int w2)])) _
    refine XS.ifNo X3.here hx rfl (hb hby d4_3) rfl ((if0 _ _).trans (feq hc3).1) ?_
    show Steps p.tables e below (T3.setTop (mkF m 6 #[.val (.ref a1)] [])) _
    refine XS.aloadN X3.here hx rfl (hb hby d4_6) rfl rfl ?_
    show Steps p.tables e below (T3.setTop (mkF m 7 #[.val (.ref a1)] [(.ref a1)])) _
    refine st5 _ ?_
    show Steps p.tables e below (T5.setTop (mkF m 10 #[.val (.ref a1)] [(.int w4)])) _
    refine XS.ifNo X5.here hx rfl (hb hby d4_10) rfl ((if0 _ _).trans (teq hc10).2) ?_
    show Steps p.tables e below (T5.setTop (mkF m 13 #[.val (.ref a1)] [])) _
    refine XS.iconst X5.here hx rfl (hb hby d4_13) ?_
    show Steps p.tables e below (T5.setTop (mkF m 14 #[.val (.ref a1)] [(.int (1 : Int32))])) _
    refine XS.goto X5.here hx rfl (pc0 := 14) (pc' := 18) rfl (hb hby d4_14) (by decide) (by decide) ?_
    show Steps p.tables e below (T5.setTop (mkF m 18 #[.val (.ref a1)] [(.int (1 : Int32))])) _
    exact retN X5 hx (t := .boolean) Bd.returns (by simp) (hb hby d4_18) hr
  · show Q4 Z a1 w2 w4 h0 n0 _ T5.heap _
    rw [e5]
    exact ⟨rfl, N0, rfl⟩

theorem d9_0 : decode jdk_42_method_152_code 0 = .ok (.getstatic 38, 3) := by decide +kernel
theorem d9_3 : decode jdk_42_method_152_code 3 = .ok (.ifCond .eq 10, 3) := by decide +kernel
theorem d9_6 : decode jdk_42_method_152_code 6 = .ok (.aload_n 0, 1) := by decide +kernel
theorem d9_7 : decode jdk_42_method_152_code 7 = .ok (.getfield 15, 3) := by decide +kernel
theorem d9_10 : decode jdk_42_method_152_code 10 = .ok (.goto 4, 3) := by decide +kernel
theorem d9_14 : decode jdk_42_method_152_code 14 = .ok (.ireturn, 1) := by decide +kernel
theorem pn_9 : plainName "java/lang/String" = true := by first | (simp [plainName, overriddenIn]; done) | decide +kernel
theorem ef_9 (m : MethodId) (x0 : Addr) : entryFrame m #[(.ref x0)] 1 = mkF m 0 #[.val (.ref x0)] [] := by first | (simp [entryFrame, mkF, argsToLocals, Value.category]; done) | rfl
def Q9 (Z : State) (a1 : Addr) (w2 : Int32) (h0 : Heap) (n0 : Nat) (v : Option Value) (h : Heap) (L : List Loc) : Prop := v = some (.int (0 : Int32)) ∧ Fr n0 L ∧ h = h0
set_option maxRecDepth 65536 in
set_option maxHeartbeats 40000000 in
theorem rm9 (l : Launch) (Z : State) (a0 : Array Value) (hw : ∀ d ∈ tables_1, d.before a0 Z = true) (ws : List Jvm.Cond) (a1 : Addr) (w2 : Int32) (h0 : Heap) (n0 : Nat) (Z0 : n0 ≤ h0.size) (S_COMPACT_STRINGS : Sta Z h0 "java/lang/String" "COMPACT_STRINGS" "Z" (.int w2)) (F_coder_a1 : Fld Z h0 a1 "java/lang/String" "coder" "B" (.int (0 : Int32))) (hc3 : ¬ (w2 = (0 : Int32))) :
    MetFree l (⟨"java/lang/String", "coder", "()B"⟩ : MethodName) (head1 (Jvm.Cond.code (⟨"java/lang/String", "coder", "()B"⟩ : MethodName) jdk_42_method_152_code 1 (some .byte) :: ws) ({ frames := 0, cells := 0, slots := 0, locals := 0 } : Room)) (fun a U => a = #[(.ref a1)] ∧ Z.Warmed39 U.vm ∧ U.heap = h0) (fun _ _ _ _ _ => True) (fun _ U o U' => ∃ v L, o = .returned v ∧ Q9 Z a1 w2 h0 n0 v U'.heap L ∧ FrameEnd U o U' L ({ frames := 0, cells := 0, slots := 0, locals := 0 } : Room).cells ({ frames := 0, cells := 0, slots := 0, locals := 0 } : Room).slots) := by
  refine MetFree.of_bodySF (plainFor_of_name pn_9) hisR ?_
  intro p e s m args below meth c s₁ Bd hml0 hP hK
  obtain ⟨rfl, hZ, hh⟩ := hP
  have hx := Bd.exec
  have hby := Bd.bytes
  have hml : c.maxLocals = 1 := hml0
  have hown : s.vm.findClass "java/lang/String" = some m.cls := findClass_of_methodNamed Bd.named
  have hnm := (name_of_methodNamed Bd.named Bd.method).1
  have X0 : Stand p l e ({ frames := 0, cells := 0, slots := 0, locals := 0 } : Room) s m #[(.ref a1)] below meth c s₁ [] 0 0 := Stand.of_body Bd
  have e0 : s₁.heap = h0 := by rw [← hh, Bd.state]; rfl
  have N0 := Fr.nil n0
  have pre0 : ∀ t, Steps p.tables e below (s₁.setTop (mkF m 0 #[.val (.ref a1)] [])) t → Steps p.tables e below (s₁.setTop (entryFrame m #[(.ref a1)] 1)) t := fun t k => castTop (ef_9 m a1) k
  obtain ⟨T3, X3, e3, st3⟩ := getS2 X0 hx hZ hown (host := "") (Or.inl (hw _ (List.mem_of_getElem? (i := 37) rfl))) Via.refl e0 S_COMPACT_STRINGS (g := (mkF m 0 #[.val (.ref a1)] [])) rfl (hb hby d9_0)
  obtain ⟨T5, X5, e5, st5⟩ := getF X3 hx hZ hown (host := "") (Or.inl (hw _ (List.mem_of_getElem? (i := 38) rfl))) Via.refl e3 F_coder_a1 (g := (mkF m 7 #[.val (.ref a1)] [(.ref a1)])) rfl rfl (hb hby d9_7)
  obtain ⟨fs, hr, hrun, hended, hW, hsame⟩ := X5.leave (v := some (.int (0 : Int32))) (fun h => by rw [Bd.returns] at h; cases h)
  refine ⟨_, _, pre0 _ ?_, hrun, hended, _, _, rfl, ?_, ⟨_, rfl⟩, hW, hsame.mono (by decide) (by decide)⟩
  · show Steps p.tables e below (s₁.setTop (mkF m 0 #[.val (.ref a1)] [])) _
    refine st3 _ ?_
    show Steps p.tables e below (T3.setTop (mkF m 3 #[.val (.ref a1)] [(.int w2)])) _
    refine XS.ifNo X3.here hx rfl (hb hby d9_3) rfl ((if0 _ _).trans (feq hc3).1) ?_
    show Steps p.tables e below (T3.setTop (mkF m 6 #[.val (.ref a1)] [])) _
    refine XS.aloadN X3.here hx rfl (hb hby d9_6) rfl rfl ?_
    show Steps p.tables e below (T3.setTop (mkF m 7 #[.val (.ref a1)] [(.ref a1)])) _
    refine st5 _ ?_
    show Steps p.tables e below (T5.setTop (mkF m 10 #[.val (.ref a1)] [(.int (0 : Int32))])) _
    refine XS.goto X5.here hx rfl (pc0 := 10) (pc' := 14) rfl (hb hby d9_10) (by decide) (by decide) ?_
    show Steps p.tables e below (T5.setTop (mkF m 14 #[.val (.ref a1)] [(.int (0 : Int32))])) _
    exact retN X5 hx (t := .byte) Bd.returns (by simp) (hb hby d9_14) hr
  · show Q9 Z a1 w2 h0 n0 _ T5.heap _
    rw [e5]
    exact ⟨rfl, N0, rfl⟩

theorem d11_0 : decode jdk_37_method_2_code 0 = .ok (.aload_n 0, 1) := by decide +kernel
theorem d11_1 : decode jdk_37_method_2_code 1 = .ok (.getfield 7, 3) := by decide +kernel
theorem d11_4 : decode jdk_37_method_2_code 4 = .ok (.ireturn, 1) := by decide +kernel
theorem pn_11 : plainName "java/lang/Enum" = true := by first | (simp [plainName, overriddenIn]; done) | decide +kernel
theorem ef_11 (m : MethodId) (x0 : Addr) : entryFrame m #[(.ref x0)] 1 = mkF m 0 #[.val (.ref x0)] [] := by first | (simp [entryFrame, mkF, argsToLocals, Value.category]; done) | rfl
def Q11 (Z : State) (a1 : Addr) (w2 : Int32) (h0 : Heap) (n0 : Nat) (v : Option Value) (h : Heap) (L : List Loc) : Prop := v = some (.int w2) ∧ Fr n0 L ∧ h = h0
set_option maxRecDepth 65536 in
set_option maxHeartbeats 40000000 in
theorem rm11 (l : Launch) (Z : State) (a0 : Array Value) (hw : ∀ d ∈ tables_1, d.before a0 Z = true) (ws : List Jvm.Cond) (a1 : Addr) (w2 : Int32) (h0 : Heap) (n0 : Nat) (Z0 : n0 ≤ h0.size) (F_ordinal_a1 : Fld Z h0 a1 "java/lang/Enum" "ordinal" "I" (.int w2)) :
    MetFree l (⟨"java/lang/Enum", "ordinal", "()I"⟩ : MethodName) (head1 (Jvm.Cond.code (⟨"java/lang/Enum", "ordinal", "()I"⟩ : MethodName) jdk_37_method_2_code 1 (some .int) :: ws) ({ frames := 0, cells := 0, slots := 0, locals := 0 } : Room)) (fun a U => a = #[(.ref a1)] ∧ Z.Warmed39 U.vm ∧ U.heap = h0) (fun _ _ _ _ _ => True) (fun _ U o U' => ∃ v L, o = .returned v ∧ Q11 Z a1 w2 h0 n0 v U'.heap L ∧ FrameEnd U o U' L ({ frames := 0, cells := 0, slots := 0, locals := 0 } : Room).cells ({ frames := 0, cells := 0, slots := 0, locals := 0 } : Room).slots) := by
  refine MetFree.of_bodySF (plainFor_of_name pn_11) hisR ?_
  intro p e s m args below meth c s₁ Bd hml0 hP hK
  obtain ⟨rfl, hZ, hh⟩ := hP
  have hx := Bd.exec
  have hby := Bd.bytes
  have hml : c.maxLocals = 1 := hml0
  have hown : s.vm.findClass "java/lang/Enum" = some m.cls := findClass_of_methodNamed Bd.named
  have hnm := (name_of_methodNamed Bd.named Bd.method).1
  have X0 : Stand p l e ({ frames := 0, cells := 0, slots := 0, locals := 0 } : Room) s m #[(.ref a1)] below meth c s₁ [] 0 0 := Stand.of_body Bd
  have e0 : s₁.heap = h0 := by rw [← hh, Bd.state]; rfl
  have N0 := Fr.nil n0
  have pre0 : ∀ t, Steps p.tables e below (s₁.setTop (mkF m 0 #[.val (.ref a1)] [])) t → Steps p.tables e below (s₁.setTop (entryFrame m #[(.ref a1)] 1)) t := fun t k => castTop (ef_11 m a1) k
  obtain ⟨T3, X3, e3, st3⟩ := getF X0 hx hZ hown (host := "") (Or.inl (hw _ (List.mem_of_getElem? (i := 74) rfl))) Via.refl e0 F_ordinal_a1 (g := (mkF m 1 #[.val (.ref a1)] [(.ref a1)])) rfl rfl (hb hby d11_1)
  obtain ⟨fs, hr, hrun, hended, hW, hsame⟩ := X3.leave (v := some (.int w2)) (fun h => by rw [Bd.returns] at h; cases h)
  refine ⟨_, _, pre0 _ ?_, hrun, hended, _, _, rfl, ?_, ⟨_, rfl⟩, hW, hsame.mono (by decide) (by decide)⟩
  · show Steps p.tables e below (s₁.setTop (mkF m 0 #[.val (.ref a1)] [])) _
    refine XS.aloadN X0.here hx rfl (hb hby d11_0) rfl rfl ?_
    show Steps p.tables e below (s₁.setTop (mkF m 1 #[.val (.ref a1)] [(.ref a1)])) _
    refine st3 _ ?_
    show Steps p.tables e below (T3.setTop (mkF m 4 #[.val (.ref a1)] [(.int w2)])) _
    exact retI X3 hx Bd.returns (hb hby d11_4) hr
  · show Q11 Z a1 w2 h0 n0 _ T3.heap _
    rw [e3]
    exact ⟨rfl, N0, rfl⟩

theorem d7_0 : decode jdk_41_method_11_code 0 = .ok (.iload_n 0, 1) := by decide +kernel
theorem d7_1 : decode jdk_41_method_11_code 1 = .ok (.ifCond .lt 8, 3) := by decide +kernel
theorem d7_4 : decode jdk_41_method_11_code 4 = .ok (.iload_n 0, 1) := by decide +kernel
theorem d7_5 : decode jdk_41_method_11_code 5 = .ok (.iload_n 1, 1) := by decide +kernel
theorem d7_6 : decode jdk_41_method_11_code 6 = .ok (.if_icmp .lt 10, 3) := by decide +kernel
theorem d7_16 : decode jdk_41_method_11_code 16 = .ok (.iload_n 0, 1) := by decide +kernel
theorem d7_17 : decode jdk_41_method_11_code 17 = .ok (.ireturn, 1) := by decide +kernel
theorem pn_7 : plainName "jdk/internal/util/Preconditions" = true := by first | (simp [plainName, overriddenIn]; done) | decide +kernel
theorem ef_7 (m : MethodId) (x0 : Int32) (x1 : Int32) (x2 : Addr) : entryFrame m #[(.int x0), (.int x1), (.ref x2)] 3 = mkF m 0 #[.val (.int x0), .val (.int x1), .val (.ref x2)] [] := by first | (simp [entryFrame, mkF, argsToLocals, Value.category]; done) | rfl
set_option maxRecDepth 65536 in
set_option maxHeartbeats 40000000 in
theorem rm7r (l : Launch) (Z : State) (a0 : Array Value) (hw : ∀ d ∈ tables_1, d.before a0 Z = true) (ws : List Jvm.Cond) (p1 : Int32) (p2 : Int32) (a3 : Addr) (h0 : Heap) (n0 : Nat) (Z0 : n0 ≤ h0.size) (hc1 : ¬ (p1 < (0 : Int32))) (hc6 : p1 < p2) :
    MetFree l (⟨"jdk/internal/util/Preconditions", "checkIndex", "(IILjava/util/function/BiFunction;)I"⟩ : MethodName) (head1 (Jvm.Cond.code (⟨"jdk/internal/util/Preconditions", "checkIndex", "(IILjava/util/function/BiFunction;)I"⟩ : MethodName) jdk_41_method_11_code 3 (some .int) :: ws) ({ frames := 0, cells := 0, slots := 0, locals := 0 } : Room)) (fun a U => a = #[(.int p1), (.int p2), (.ref a3)] ∧ Z.Warmed39 U.vm ∧ U.heap = h0) (fun _ _ _ _ _ => True) (fun _ U o U' => ∃ v L, o = .returned v ∧ QR (.int p1) h0 n0 v U'.heap L ∧ FrameEnd U o U' L ({ frames := 0, cells := 0, slots := 0, locals := 0 } : Room).cells ({ frames := 0, cells := 0, slots := 0, locals := 0 } : Room).slots) := by
  refine MetFree.of_bodySF (plainFor_of_name pn_7) hisR ?_
  intro p e s m args below meth c s₁ Bd hml0 hP hK
  obtain ⟨rfl, hZ, hh⟩ := hP
  have hx := Bd.exec
  have hby := Bd.bytes
  have hml : c.maxLocals = 3 := hml0
  have hown : s.vm.findClass "jdk/internal/util/Preconditions" = some m.cls := findClass_of_methodNamed Bd.named
  have hnm := (name_of_methodNamed Bd.named Bd.method).1
  have X0 : Stand p l e ({ frames := 0, cells := 0, slots := 0, locals := 0 } : Room) s m #[(.int p1), (.int p2), (.ref a3)] below meth c s₁ [] 0 0 := Stand.of_body Bd
  have e0 : s₁.heap = h0 := by rw [← hh, Bd.state]; rfl
  have N0 := Fr.nil n0
  have pre0 : ∀ t, Steps p.tables e below (s₁.setTop (mkF m 0 #[.val (.int p1), .val (.int p2), .val (.ref a3)] [])) t → Steps p.tables e below (s₁.setTop (entryFrame m #[(.int p1), (.int p2), (.ref a3)] 3)) t := fun t k => castTop (ef_7 m p1 p2 a3) k

  obtain ⟨fs, hr, hrun, hended, hW, hsame⟩ := X0.leave (v := some (.int p1)) (fun h => by rw [Bd.returns] at h; cases h)
  refine ⟨_, _, pre0 _ ?_, hrun, hended, _, _, rfl, ?_, ⟨_, rfl⟩, hW, hsame.mono (by decide) (by decide)⟩
  · show Steps p.tables e below (s₁.setTop (mkF m 0 #[.val (.int p1), .val (.int p2), .val (.ref a3)] [])) _
    refine XS.iloadN X0.here hx rfl (hb hby d7_0) rfl ?_
    show Steps p.tables e below (s₁.setTop (mkF m 1 #[.val (.int p1), .val (.int p2), .val (.ref a3)] [(.int p1)])) _
    refine XS.ifNo X0.here hx rfl (hb hby d7_1) rfl ((if0 _ _).trans (flt hc1).1) ?_
    show Steps p.tables e below (s₁.setTop (mkF m 4 #[.val (.int p1), .val (.int p2), .val (.ref a3)] [])) _
    refine XS.iloadN X0.here hx rfl (hb hby d7_4) rfl ?_
    show Steps p.tables e below (s₁.setTop (mkF m 5 #[.val (.int p1), .val (.int p2), .val (.ref a3)] [(.int p1)])) _
    refine XS.iloadN X0.here hx rfl (hb hby d7_5) rfl ?_
    show Steps p.tables e below (s₁.setTop (mkF m 6 #[.val (.int p1), .val (.int p2), .val (.ref a3)] [(.int p2), (.int p1)])) _
    refine XS.icmpYes X0.here hx rfl (pc0 := 6) (pc' := 16) rfl (hb hby d7_6) rfl (tlt hc6).1 (by decide) (by decide) ?_
    show Steps p.tables e below (s₁.setTop (mkF m 16 #[.val (.int p1), .val (.int p2), .val (.ref a3)] [])) _
    refine XS.iloadN X0.here hx rfl (hb hby d7_16) rfl ?_
    show Steps p.tables e below (s₁.setTop (mkF m 17 #[.val (.int p1), .val (.int p2), .val (.ref a3)] [(.int p1)])) _
    exact retI X0 hx Bd.returns (hb hby d7_17) hr
  · show QR (.int p1) h0 n0 _ s₁.heap _
    rw [e0]
    exact ⟨rfl, N0, rfl⟩

theorem ef_7n (m : MethodId) (x0 : Int32) (x1 : Int32) : entryFrame m #[(.int x0), (.int x1), .null] 3 = mkF m 0 #[.val (.int x0), .val (.int x1), .val .null] [] := by first | (simp [entryFrame, mkF, argsToLocals, Value.category]; done) | rfl
set_option maxRecDepth 65536 in
set_option maxHeartbeats 40000000 in
theorem rm7n (l : Launch) (Z : State) (a0 : Array Value) (hw : ∀ d ∈ tables_1, d.before a0 Z = true) (ws : List Jvm.Cond) (p1 : Int32) (p2 : Int32) (h0 : Heap) (n0 : Nat) (Z0 : n0 ≤ h0.size) (hc1 : ¬ (p1 < (0 : Int32))) (hc6 : p1 < p2) :
    MetFree l (⟨"jdk/internal/util/Preconditions", "checkIndex", "(IILjava/util/function/BiFunction;)I"⟩ : MethodName) (head1 (Jvm.Cond.code (⟨"jdk/internal/util/Preconditions", "checkIndex", "(IILjava/util/function/BiFunction;)I"⟩ : MethodName) jdk_41_method_11_code 3 (some .int) :: ws) ({ frames := 0, cells := 0, slots := 0, locals := 0 } : Room)) (fun a U => a = #[(.int p1), (.int p2), .null] ∧ Z.Warmed39 U.vm ∧ U.heap = h0) (fun _ _ _ _ _ => True) (fun _ U o U' => ∃ v L, o = .returned v ∧ QR (.int p1) h0 n0 v U'.heap L ∧ FrameEnd U o U' L ({ frames := 0, cells := 0, slots := 0, locals := 0 } : Room).cells ({ frames := 0, cells := 0, slots := 0, locals := 0 } : Room).slots) := by
  refine MetFree.of_bodySF (plainFor_of_name pn_7) hisR ?_
  intro p e s m args below meth c s₁ Bd hml0 hP hK
  obtain ⟨rfl, hZ, hh⟩ := hP
  have hx := Bd.exec
  have hby := Bd.bytes
  have hml : c.maxLocals = 3 := hml0
  have hown : s.vm.findClass "jdk/internal/util/Preconditions" = some m.cls := findClass_of_methodNamed Bd.named
  have hnm := (name_of_methodNamed Bd.named Bd.method).1
  have X0 : Stand p l e ({ frames := 0, cells := 0, slots := 0, locals := 0 } : Room) s m #[(.int p1), (.int p2), .null] below meth c s₁ [] 0 0 := Stand.of_body Bd
  have e0 : s₁.heap = h0 := by rw [← hh, Bd.state]; rfl
  have N0 := Fr.nil n0
  have pre0 : ∀ t, Steps p.tables e below (s₁.setTop (mkF m 0 #[.val (.int p1), .val (.int p2), .val .null] [])) t → Steps p.tables e below (s₁.setTop (entryFrame m #[(.int p1), (.int p2), .null] 3)) t := fun t k => castTop (ef_7n m p1 p2) k

  obtain ⟨fs, hr, hrun, hended, hW, hsame⟩ := X0.leave (v := some (.int p1)) (fun h => by rw [Bd.returns] at h; cases h)
  refine ⟨_, _, pre0 _ ?_, hrun, hended, _, _, rfl, ?_, ⟨_, rfl⟩, hW, hsame.mono (by decide) (by decide)⟩
  · show Steps p.tables e below (s₁.setTop (mkF m 0 #[.val (.int p1), .val (.int p2), .val .null] [])) _
    refine XS.iloadN X0.here hx rfl (hb hby d7_0) rfl ?_
    show Steps p.tables e below (s₁.setTop (mkF m 1 #[.val (.int p1), .val (.int p2), .val .null] [(.int p1)])) _
    refine XS.ifNo X0.here hx rfl (hb hby d7_1) rfl ((if0 _ _).trans (flt hc1).1) ?_
    show Steps p.tables e below (s₁.setTop (mkF m 4 #[.val (.int p1), .val (.int p2), .val .null] [])) _
    refine XS.iloadN X0.here hx rfl (hb hby d7_4) rfl ?_
    show Steps p.tables e below (s₁.setTop (mkF m 5 #[.val (.int p1), .val (.int p2), .val .null] [(.int p1)])) _
    refine XS.iloadN X0.here hx rfl (hb hby d7_5) rfl ?_
    show Steps p.tables e below (s₁.setTop (mkF m 6 #[.val (.int p1), .val (.int p2), .val .null] [(.int p2), (.int p1)])) _
    refine XS.icmpYes X0.here hx rfl (pc0 := 6) (pc' := 16) rfl (hb hby d7_6) rfl (tlt hc6).1 (by decide) (by decide) ?_
    show Steps p.tables e below (s₁.setTop (mkF m 16 #[.val (.int p1), .val (.int p2), .val .null] [])) _
    refine XS.iloadN X0.here hx rfl (hb hby d7_16) rfl ?_
    show Steps p.tables e below (s₁.setTop (mkF m 17 #[.val (.int p1), .val (.int p2), .val .null] [(.int p1)])) _
    exact retI X0 hx Bd.returns (hb hby d7_17) hr
  · show QR (.int p1) h0 n0 _ s₁.heap _
    rw [e0]
    exact ⟨rfl, N0, rfl⟩

theorem d6_0 : decode jdk_42_method_155_code 0 = .ok (.iload_n 0, 1) := by decide +kernel
theorem d6_1 : decode jdk_42_method_155_code 1 = .ok (.iload_n 1, 1) := by decide +kernel
theorem d6_2 : decode jdk_42_method_155_code 2 = .ok (.getstatic 1053, 3) := by decide +kernel
theorem d6_5 : decode jdk_42_method_155_code 5 = .ok (.invokestatic 1059, 3) := by decide +kernel
theorem d6_8 : decode jdk_42_method_155_code 8 = .ok (.pop, 1) := by decide +kernel
theorem d6_9 : decode jdk_42_method_155_code 9 = .ok (.return_, 1) := by decide +kernel
theorem pn_6 : plainName "java/lang/String" = true := by first | (simp [plainName, overriddenIn]; done) | decide +kernel
theorem pd_6_5 : parseMethodDescriptor "(IILjava/util/function/BiFunction;)I" = some ⟨[.int, .int, (.object "java/util/function/BiFunction")], some .int⟩ := by decide +kernel
theorem ef_6 (m : MethodId) (x0 : Int32) (x1 : Int32) : entryFrame m #[(.int x0), (.int x1)] 2 = mkF m 0 #[.val (.int x0), .val (.int x1)] [] := by first | (simp [entryFrame, mkF, argsToLocals, Value.category]; done) | rfl
set_option maxRecDepth 65536 in
set_option maxHeartbeats 40000000 in
theorem rm6r (l : Launch) (Z : State) (a0 : Array Value) (hw : ∀ d ∈ tables_1, d.before a0 Z = true) (ws : List Jvm.Cond) (p1 : Int32) (p2 : Int32) (w3 : Addr) (h0 : Heap) (n0 : Nat) (Z0 : n0 ≤ h0.size) (S_SIOOBE_FORMATTER : Sta Z h0 "jdk/internal/util/Preconditions" "SIOOBE_FORMATTER" "Ljava/util/function/BiFunction;" (.ref w3)) (hc1 : ¬ (p1 < (0 : Int32))) (hc6 : p1 < p2) :
    MetFree l (⟨"java/lang/String", "checkIndex", "(II)V"⟩ : MethodName) (head1 (Jvm.Cond.code (⟨"java/lang/String", "checkIndex", "(II)V"⟩ : MethodName) jdk_42_method_155_code 2 none :: ws) ({ frames := 1, cells := 0, slots := 0, locals := 14 } : Room)) (fun a U => a = #[(.int p1), (.int p2)] ∧ Z.Warmed39 U.vm ∧ U.heap = h0) (fun _ _ _ _ _ => True) (fun _ U o U' => ∃ v L, o = .returned v ∧ QN h0 n0 v U'.heap L ∧ FrameEnd U o U' L ({ frames := 1, cells := 0, slots := 0, locals := 14 } : Room).cells ({ frames := 1, cells := 0, slots := 0, locals := 14 } : Room).slots) := by
  refine MetFree.of_bodySF (plainFor_of_name pn_6) hisR ?_
  intro p e s m args below meth c s₁ Bd hml0 hP hK
  obtain ⟨rfl, hZ, hh⟩ := hP
  have hx := Bd.exec
  have hby := Bd.bytes
  have hml : c.maxLocals = 2 := hml0
  have hown : s.vm.findClass "java/lang/String" = some m.cls := findClass_of_methodNamed Bd.named
  have hnm := (name_of_methodNamed Bd.named Bd.method).1
  have X0 : Stand p l e ({ frames := 1, cells := 0, slots := 0, locals := 14 } : Room) s m #[(.int p1), (.int p2)] below meth c s₁ [] 0 0 := Stand.of_body Bd
  have e0 : s₁.heap = h0 := by rw [← hh, Bd.state]; rfl
  have N0 := Fr.nil n0
  have pre0 : ∀ t, Steps p.tables e below (s₁.setTop (mkF m 0 #[.val (.int p1), .val (.int p2)] [])) t → Steps p.tables e below (s₁.setTop (entryFrame m #[(.int p1), (.int p2)] 2)) t := fun t k => castTop (ef_6 m p1 p2) k
  obtain ⟨T4, X4, e4, st4⟩ := getS2 X0 hx hZ hown (host := "") (Or.inl (hw _ (List.mem_of_getElem? (i := 47) rfl))) Via.refl e0 S_SIOOBE_FORMATTER (g := (mkF m 2 #[.val (.int p1), .val (.int p2)] [(.int p2), (.int p1)])) rfl (hb hby d6_2)
  obtain ⟨_, _, ⟨T5, L5, k5, n5⟩, -, X5, ⟨Lc5, hQ5, l5, y5, z5⟩, st5⟩ := Jvm.LawKit.callS X4 hx (y := (⟨"jdk/internal/util/Preconditions", "checkIndex", "(IILjava/util/function/BiFunction;)I"⟩ : MethodName)) hown (mvT hZ (hw _ (List.mem_of_getElem? (i := 49) rfl))) (mvT hZ (hw _ (List.mem_of_getElem? (i := 50) rfl))) (mvT hZ (hw _ (List.mem_of_getElem? (i := 48) rfl))) (mvT hZ (hw _ (List.mem_of_getElem? (i := 51) rfl))) (by decide) (backOf (W := 0) (rm7r l Z a0 hw [] p1 p2 w3 h0 n0 Z0 hc1 hc6) hZ (hw _ (List.mem_of_getElem? (i := 51) rfl)) (hw _ (List.mem_of_getElem? (i := 48) rfl)) (by decide) (by decide)) (g := (mkF m 5 #[.val (.int p1), .val (.int p2)] [(.ref w3), (.int p2), (.int p1)])) rfl (by rw [hml]; rfl) (argsL := [(.int p1), (.int p2), (.ref w3)]) (rest := []) (lenOf pd_6_5 rfl) rfl (by show 2 * 0 + _ ≤ _; exact Nat.le_of_eq rfl) (hb hby d6_5) (fun _ _ => ⟨rfl, e4, (by decide : 0 + 0 ≤ _), (by decide : 0 + 0 ≤ _)⟩)
  dsimp only [Pt.U, Pt.locs, Pt.cells, Pt.slots] at X5 l5 y5 z5 st5 hQ5
  subst l5 y5 z5
  obtain ⟨rfl, N5q, e5⟩ := hQ5
  have N5 := Fr.app N0 N5q
  obtain ⟨fs, hr, hrun, hended, hW, hsame⟩ := X5.leave (v := none) (fun _ => rfl)
  refine ⟨_, _, pre0 _ ?_, hrun, hended, _, _, rfl, ?_, ⟨_, rfl⟩, hW, hsame.mono (by decide) (by decide)⟩
  · show Steps p.tables e below (s₁.setTop (mkF m 0 #[.val (.int p1), .val (.int p2)] [])) _
    refine XS.iloadN X0.here hx rfl (hb hby d6_0) rfl ?_
    show Steps p.tables e below (s₁.setTop (mkF m 1 #[.val (.int p1), .val (.int p2)] [(.int p1)])) _
    refine XS.iloadN X0.here hx rfl (hb hby d6_1) rfl ?_
    show Steps p.tables e below (s₁.setTop (mkF m 2 #[.val (.int p1), .val (.int p2)] [(.int p2), (.int p1)])) _
    refine st4 _ ?_
    show Steps p.tables e below (T4.setTop (mkF m 5 #[.val (.int p1), .val (.int p2)] [(.ref w3), (.int p2), (.int p1)])) _
    refine st5 _ ?_
    show Steps p.tables e below (T5.setTop (mkF m 8 #[.val (.int p1), .val (.int p2)] [(.int p1)])) _
    refine XS.pop X5.here hx rfl (hb hby d6_8) rfl rfl ?_
    show Steps p.tables e below (T5.setTop (mkF m 9 #[.val (.int p1), .val (.int p2)] [])) _
    exact X5.returnOut hx Bd.returns (hb hby d6_9) hr
  · show QN h0 n0 _ T5.heap _
    exact ⟨rfl, N5, e5⟩

set_option maxRecDepth 65536 in
set_option maxHeartbeats 40000000 in
theorem rm6n (l : Launch) (Z : State) (a0 : Array Value) (hw : ∀ d ∈ tables_1, d.before a0 Z = true) (ws : List Jvm.Cond) (p1 : Int32) (p2 : Int32) (h0 : Heap) (n0 : Nat) (Z0 : n0 ≤ h0.size) (S_SIOOBE_FORMATTER : Sta Z h0 "jdk/internal/util/Preconditions" "SIOOBE_FORMATTER" "Ljava/util/function/BiFunction;" .null) (hc1 : ¬ (p1 < (0 : Int32))) (hc6 : p1 < p2) :
    MetFree l (⟨"java/lang/String", "checkIndex", "(II)V"⟩ : MethodName) (head1 (Jvm.Cond.code (⟨"java/lang/String", "checkIndex", "(II)V"⟩ : MethodName) jdk_42_method_155_code 2 none :: ws) ({ frames := 1, cells := 0, slots := 0, locals := 14 } : Room)) (fun a U => a = #[(.int p1), (.int p2)] ∧ Z.Warmed39 U.vm ∧ U.heap = h0) (fun _ _ _ _ _ => True) (fun _ U o U' => ∃ v L, o = .returned v ∧ QN h0 n0 v U'.heap L ∧ FrameEnd U o U' L ({ frames := 1, cells := 0, slots := 0, locals := 14 } : Room).cells ({ frames := 1, cells := 0, slots := 0, locals := 14 } : Room).slots) := by
  refine MetFree.of_bodySF (plainFor_of_name pn_6) hisR ?_
  intro p e s m args below meth c s₁ Bd hml0 hP hK
  obtain ⟨rfl, hZ, hh⟩ := hP
  have hx := Bd.exec
  have hby := Bd.bytes
  have hml : c.maxLocals = 2 := hml0
  have hown : s.vm.findClass "java/lang/String" = some m.cls := findClass_of_methodNamed Bd.named
  have hnm := (name_of_methodNamed Bd.named Bd.method).1
  have X0 : Stand p l e ({ frames := 1, cells := 0, slots := 0, locals := 14 } : Room) s m #[(.int p1), (.int p2)] below meth c s₁ [] 0 0 := Stand.of_body Bd
  have e0 : s₁.heap = h0 := by rw [← hh, Bd.state]; rfl
  have N0 := Fr.nil n0
  have pre0 : ∀ t, Steps p.tables e below (s₁.setTop (mkF m 0 #[.val (.int p1), .val (.int p2)] [])) t → Steps p.tables e below (s₁.setTop (entryFrame m #[(.int p1), (.int p2)] 2)) t := fun t k => castTop (ef_6 m p1 p2) k
  obtain ⟨T4, X4, e4, st4⟩ := getS2 X0 hx hZ hown (host := "") (Or.inl (hw _ (List.mem_of_getElem? (i := 47) rfl))) Via.refl e0 S_SIOOBE_FORMATTER (g := (mkF m 2 #[.val (.int p1), .val (.int p2)] [(.int p2), (.int p1)])) rfl (hb hby d6_2)
  obtain ⟨_, _, ⟨T5, L5, k5, n5⟩, -, X5, ⟨Lc5, hQ5, l5, y5, z5⟩, st5⟩ := Jvm.LawKit.callS X4 hx (y := (⟨"jdk/internal/util/Preconditions", "checkIndex", "(IILjava/util/function/BiFunction;)I"⟩ : MethodName)) hown (mvT hZ (hw _ (List.mem_of_getElem? (i := 49) rfl))) (mvT hZ (hw _ (List.mem_of_getElem? (i := 50) rfl))) (mvT hZ (hw _ (List.mem_of_getElem? (i := 48) rfl))) (mvT hZ (hw _ (List.mem_of_getElem? (i := 51) rfl))) (by decide) (backOf (W := 0) (rm7n l Z a0 hw [] p1 p2 h0 n0 Z0 hc1 hc6) hZ (hw _ (List.mem_of_getElem? (i := 51) rfl)) (hw _ (List.mem_of_getElem? (i := 48) rfl)) (by decide) (by decide)) (g := (mkF m 5 #[.val (.int p1), .val (.int p2)] [.null, (.int p2), (.int p1)])) rfl (by rw [hml]; rfl) (argsL := [(.int p1), (.int p2), .null]) (rest := []) (lenOf pd_6_5 rfl) rfl (by show 2 * 0 + _ ≤ _; exact Nat.le_of_eq rfl) (hb hby d6_5) (fun _ _ => ⟨rfl, e4, (by decide : 0 + 0 ≤ _), (by decide : 0 + 0 ≤ _)⟩)
  dsimp only [Pt.U, Pt.locs, Pt.cells, Pt.slots] at X5 l5 y5 z5 st5 hQ5
  subst l5 y5 z5
  obtain ⟨rfl, N5q, e5⟩ := hQ5
  have N5 := Fr.app N0 N5q
  obtain ⟨fs, hr, hrun, hended, hW, hsame⟩ := X5.leave (v := none) (fun _ => rfl)
  refine ⟨_, _, pre0 _ ?_, hrun, hended, _, _, rfl, ?_, ⟨_, rfl⟩, hW, hsame.mono (by decide) (by decide)⟩
  · show Steps p.tables e below (s₁.setTop (mkF m 0 #[.val (.int p1), .val (.int p2)] [])) _
    refine XS.iloadN X0.here hx rfl (hb hby d6_0) rfl ?_
    show Steps p.tables e below (s₁.setTop (mkF m 1 #[.val (.int p1), .val (.int p2)] [(.int p1)])) _
    refine XS.iloadN X0.here hx rfl (hb hby d6_1) rfl ?_
    show Steps p.tables e below (s₁.setTop (mkF m 2 #[.val (.int p1), .val (.int p2)] [(.int p2), (.int p1)])) _
    refine st4 _ ?_
    show Steps p.tables e below (T4.setTop (mkF m 5 #[.val (.int p1), .val (.int p2)] [.null, (.int p2), (.int p1)])) _
    refine st5 _ ?_
    show Steps p.tables e below (T5.setTop (mkF m 8 #[.val (.int p1), .val (.int p2)] [(.int p1)])) _
    refine XS.pop X5.here hx rfl (hb hby d6_8) rfl rfl ?_
    show Steps p.tables e below (T5.setTop (mkF m 9 #[.val (.int p1), .val (.int p2)] [])) _
    exact X5.returnOut hx Bd.returns (hb hby d6_9) hr
  · show QN h0 n0 _ T5.heap _
    exact ⟨rfl, N5, e5⟩

theorem rm6 (l : Launch) (Z : State) (a0 : Array Value) (hw : ∀ d ∈ tables_1, d.before a0 Z = true) (ws : List Jvm.Cond) (p1 : Int32) (p2 : Int32) (fr : Value) (hfr : fr.isRef = true) (h0 : Heap) (n0 : Nat) (Z0 : n0 ≤ h0.size) (S_SIOOBE_FORMATTER : Sta Z h0 "jdk/internal/util/Preconditions" "SIOOBE_FORMATTER" "Ljava/util/function/BiFunction;" fr) (hc1 : ¬ (p1 < (0 : Int32))) (hc6 : p1 < p2) :
    MetFree l (⟨"java/lang/String", "checkIndex", "(II)V"⟩ : MethodName) (head1 (Jvm.Cond.code (⟨"java/lang/String", "checkIndex", "(II)V"⟩ : MethodName) jdk_42_method_155_code 2 none :: ws) ({ frames := 1, cells := 0, slots := 0, locals := 14 } : Room)) (fun a U => a = #[(.int p1), (.int p2)] ∧ Z.Warmed39 U.vm ∧ U.heap = h0) (fun _ _ _ _ _ => True) (fun _ U o U' => ∃ v L, o = .returned v ∧ QN h0 n0 v U'.heap L ∧ FrameEnd U o U' L ({ frames := 1, cells := 0, slots := 0, locals := 14 } : Room).cells ({ frames := 1, cells := 0, slots := 0, locals := 14 } : Room).slots) := by
  rcases ref_cases hfr with rfl | ⟨w3, rfl⟩
  · exact rm6n l Z a0 hw ws p1 p2 h0 n0 Z0 S_SIOOBE_FORMATTER hc1 hc6
  · exact rm6r l Z a0 hw ws p1 p2 w3 h0 n0 Z0 S_SIOOBE_FORMATTER hc1 hc6

theorem d5_0 : decode jdk_43_method_2_code 0 = .ok (.iload_n 1, 1) := by decide +kernel
theorem d5_1 : decode jdk_43_method_2_code 1 = .ok (.aload_n 0, 1) := by decide +kernel
theorem d5_2 : decode jdk_43_method_2_code 2 = .ok (.arraylength, 1) := by decide +kernel
theorem d5_3 : decode jdk_43_method_2_code 3 = .ok (.invokestatic 9, 3) := by decide +kernel
theorem d5_6 : decode jdk_43_method_2_code 6 = .ok (.aload_n 0, 1) := by decide +kernel
theorem d5_7 : decode jdk_43_method_2_code 7 = .ok (.iload_n 1, 1) := by decide +kernel
theorem d5_8 : decode jdk_43_method_2_code 8 = .ok (.baload, 1) := by decide +kernel
theorem d5_9 : decode jdk_43_method_2_code 9 = .ok (.sipush 255, 3) := by decide +kernel
theorem d5_12 : decode jdk_43_method_2_code 12 = .ok (.iand, 1) := by decide +kernel
theorem d5_13 : decode jdk_43_method_2_code 13 = .ok (.i2c, 1) := by decide +kernel
theorem d5_14 : decode jdk_43_method_2_code 14 = .ok (.ireturn, 1) := by decide +kernel
theorem pn_5 : plainName "java/lang/StringLatin1" = true := by first | (simp [plainName, overriddenIn]; done) | decide +kernel
theorem pd_5_4 : parseMethodDescriptor "(II)V" = some ⟨[.int, .int], none⟩ := by decide +kernel
theorem ef_5 (m : MethodId) (x0 : Addr) (x1 : Int32) : entryFrame m #[(.ref x0), (.int x1)] 2 = mkF m 0 #[.val (.ref x0), .val (.int x1)] [] := by first | (simp [entryFrame, mkF, argsToLocals, Value.category]; done) | rfl
set_option maxRecDepth 65536 in
set_option maxHeartbeats 40000000 in
theorem rm5 (l : Launch) (Z : State) (a0 : Array Value) (hw : ∀ d ∈ tables_1, d.before a0 Z = true) (ws : List Jvm.Cond) (a1 : Addr) (p2 : Int32) (cl_a1 : Cell) (z_a1 : Int32) (w4 : Int32) (ch : Int32) (fr : Value) (h0 : Heap) (n0 : Nat) (Z0 : n0 ≤ h0.size) (Ar_a1 : Arr Z h0 a1 cl_a1 .byte) (S_a1 : cl_a1.slots.size = z_a1.toNatClampNeg) (N_a1 : ¬ z_a1 < 0) (hin8 : ¬ (p2 < 0 ∨ cl_a1.slots.size ≤ (p2).toNatClampNeg)) (hat8 : cl_a1.slots[(p2).toNatClampNeg]? = some (.int w4)) (hch : ((w4 &&& (255 : Int32)).toUInt32.toUInt16.toUInt32.toInt32) = ch) (hnc : nar .char ch = ch) (Sfr : Sta Z h0 "jdk/internal/util/Preconditions" "SIOOBE_FORMATTER" "Ljava/util/function/BiFunction;" fr) (hfr : fr.isRef = true) (hc1 : ¬ (p2 < (0 : Int32))) (hc6 : p2 < z_a1) :
    MetFree l (⟨"java/lang/StringLatin1", "charAt", "([BI)C"⟩ : MethodName) (head1 (Jvm.Cond.code (⟨"java/lang/StringLatin1", "charAt", "([BI)C"⟩ : MethodName) jdk_43_method_2_code 2 (some .char) :: ws) ({ frames := 2, cells := 0, slots := 0, locals := 27 } : Room)) (fun a U => a = #[(.ref a1), (.int p2)] ∧ Z.Warmed39 U.vm ∧ U.heap = h0) (fun _ _ _ _ _ => True) (fun _ U o U' => ∃ v L, o = .returned v ∧ QR (.int ch) h0 n0 v U'.heap L ∧ FrameEnd U o U' L ({ frames := 2, cells := 0, slots := 0, locals := 27 } : Room).cells ({ frames := 2, cells := 0, slots := 0, locals := 27 } : Room).slots) := by
  refine MetFree.of_bodySF (plainFor_of_name pn_5) hisR ?_
  intro p e s m args below meth c s₁ Bd hml0 hP hK
  obtain ⟨rfl, hZ, hh⟩ := hP
  have hx := Bd.exec
  have hby := Bd.bytes
  have hml : c.maxLocals = 2 := hml0
  have hown : s.vm.findClass "java/lang/StringLatin1" = some m.cls := findClass_of_methodNamed Bd.named
  have hnm := (name_of_methodNamed Bd.named Bd.method).1
  have X0 : Stand p l e ({ frames := 2, cells := 0, slots := 0, locals := 27 } : Room) s m #[(.ref a1), (.int p2)] below meth c s₁ [] 0 0 := Stand.of_body Bd
  have e0 : s₁.heap = h0 := by rw [← hh, Bd.state]; rfl
  have N0 := Fr.nil n0
  have pre0 : ∀ t, Steps p.tables e below (s₁.setTop (mkF m 0 #[.val (.ref a1), .val (.int p2)] [])) t → Steps p.tables e below (s₁.setTop (entryFrame m #[(.ref a1), (.int p2)] 2)) t := fun t k => castTop (ef_5 m a1 p2) k
  obtain ⟨_, _, ⟨T3, L3, k3, n3⟩, -, X3, ⟨Lc3, hQ3, l3, y3, z3⟩, st3⟩ := Jvm.LawKit.callS X0 hx (y := (⟨"java/lang/String", "checkIndex", "(II)V"⟩ : MethodName)) hown (mvT hZ (hw _ (List.mem_of_getElem? (i := 44) rfl))) (mvT hZ (hw _ (List.mem_of_getElem? (i := 45) rfl))) (mvT hZ (hw _ (List.mem_of_getElem? (i := 23) rfl))) (mvT hZ (hw _ (List.mem_of_getElem? (i := 46) rfl))) (by decide) (backOf (W := 0) (rm6 l Z a0 hw [] p2 z_a1 fr hfr h0 n0 Z0 Sfr hc1 hc6) hZ (hw _ (List.mem_of_getElem? (i := 46) rfl)) (hw _ (List.mem_of_getElem? (i := 23) rfl)) (by decide) (by decide)) (g := (mkF m 3 #[.val (.ref a1), .val (.int p2)] [(.int z_a1), (.int p2)])) rfl (by rw [hml]; rfl) (argsL := [(.int p2), (.int z_a1)]) (rest := []) (lenOf pd_5_4 rfl) rfl (by show 2 * 0 + _ ≤ _; exact Nat.le_of_eq rfl) (hb hby d5_3) (fun _ _ => ⟨rfl, e0, (by decide : 0 + 0 ≤ _), (by decide : 0 + 0 ≤ _)⟩)
  dsimp only [Pt.U, Pt.locs, Pt.cells, Pt.slots] at X3 l3 y3 z3 st3 hQ3
  subst l3 y3 z3
  obtain ⟨rfl, N3q, e3⟩ := hQ3
  have N3 := Fr.app N0 N3q
  obtain ⟨fs, hr, hrun, hended, hW, hsame⟩ := X3.leave (v := some (.int ch)) (fun h => by rw [Bd.returns] at h; cases h)
  refine ⟨_, _, pre0 _ ?_, hrun, hended, _, _, rfl, ?_, ⟨_, rfl⟩, hW, hsame.mono (by decide) (by decide)⟩
  · show Steps p.tables e below (s₁.setTop (mkF m 0 #[.val (.ref a1), .val (.int p2)] [])) _
    refine XS.iloadN X0.here hx rfl (hb hby d5_0) rfl ?_
    show Steps p.tables e below (s₁.setTop (mkF m 1 #[.val (.ref a1), .val (.int p2)] [(.int p2)])) _
    refine XS.aloadN X0.here hx rfl (hb hby d5_1) rfl rfl ?_
    show Steps p.tables e below (s₁.setTop (mkF m 2 #[.val (.ref a1), .val (.int p2)] [(.ref a1), (.int p2)])) _
    refine X0.arraylength hx (by rw [e0]; exact Ar_a1.1) (State.isArrayOf_alike hZ.alike Ar_a1.2.1) (g := (mkF m 2 #[.val (.ref a1), .val (.int p2)] [(.ref a1), (.int p2)])) rfl rfl (hb hby d5_2) _ ?_
    rw [len_of S_a1 N_a1]
    show Steps p.tables e below (s₁.setTop (mkF m 3 #[.val (.ref a1), .val (.int p2)] [(.int z_a1), (.int p2)])) _
    refine st3 _ ?_
    show Steps p.tables e below (T3.setTop (mkF m 6 #[.val (.ref a1), .val (.int p2)] [])) _
    refine XS.aloadN X3.here hx rfl (hb hby d5_6) rfl rfl ?_
    show Steps p.tables e below (T3.setTop (mkF m 7 #[.val (.ref a1), .val (.int p2)] [(.ref a1)])) _
    refine XS.iloadN X3.here hx rfl (hb hby d5_7) rfl ?_
    show Steps p.tables e below (T3.setTop (mkF m 8 #[.val (.ref a1), .val (.int p2)] [(.int p2), (.ref a1)])) _
    refine X3.baloadBytes hx (j := p2) (v := (.int w4)) (by rw [e3]; exact Ar_a1.1) (State.isArrayOf_alike hZ.alike Ar_a1.2.1) Ar_a1.2.2 hin8 hat8 (g := (mkF m 8 #[.val (.ref a1), .val (.int p2)] [(.int p2), (.ref a1)])) rfl rfl (hb hby d5_8) _ ?_
    show Steps p.tables e below (T3.setTop (mkF m 9 #[.val (.ref a1), .val (.int p2)] [(.int w4)])) _
    refine XS.sipush X3.here hx rfl (hb hby d5_9) ?_
    show Steps p.tables e below (T3.setTop (mkF m 12 #[.val (.ref a1), .val (.int p2)] [(.int (255 : Int32)), (.int w4)])) _
    refine XS.iand X3.here hx rfl (hb hby d5_12) rfl ?_
    show Steps p.tables e below (T3.setTop (mkF m 13 #[.val (.ref a1), .val (.int p2)] [(.int (w4 &&& (255 : Int32)))])) _
    refine XS.i2c X3.here hx rfl (hb hby d5_13) rfl ?_
    show Steps p.tables e below (T3.setTop (mkF m 14 #[.val (.ref a1), .val (.int p2)] [(.int ((w4 &&& (255 : Int32)).toUInt32.toUInt16.toUInt32.toInt32))])) _
    rw [hch]
    exact retN X3 hx (t := .char) Bd.returns (by simp) (hb hby d5_14) (by rw [hnc]; exact hr)
  · show QR (.int ch) h0 n0 _ T3.heap _
    exact ⟨rfl, N3, e3⟩

theorem d3_0 : decode jdk_42_method_56_code 0 = .ok (.aload_n 0, 1) := by decide +kernel
theorem d3_1 : decode jdk_42_method_56_code 1 = .ok (.invokevirtual 492, 3) := by decide +kernel
theorem d3_4 : decode jdk_42_method_56_code 4 = .ok (.ifCond .eq 12, 3) := by decide +kernel
theorem d3_7 : decode jdk_42_method_56_code 7 = .ok (.aload_n 0, 1) := by decide +kernel
theorem d3_8 : decode jdk_42_method_56_code 8 = .ok (.getfield 9, 3) := by decide +kernel
theorem d3_11 : decode jdk_42_method_56_code 11 = .ok (.iload_n 1, 1) := by decide +kernel
theorem d3_12 : decode jdk_42_method_56_code 12 = .ok (.invokestatic 495, 3) := by decide +kernel
theorem d3_15 : decode jdk_42_method_56_code 15 = .ok (.ireturn, 1) := by decide +kernel
theorem pn_3 : plainName "java/lang/String" = true := by first | (simp [plainName, overriddenIn]; done) | decide +kernel
theorem pd_3_1 : parseMethodDescriptor "()Z" = some ⟨[], some .boolean⟩ := by decide +kernel
theorem pd_3_3 : parseMethodDescriptor "([BI)C" = some ⟨[(.array .byte), .int], some .char⟩ := by decide +kernel
theorem ef_3 (m : MethodId) (x0 : Addr) (x1 : Int32) : entryFrame m #[(.ref x0), (.int x1)] 2 = mkF m 0 #[.val (.ref x0), .val (.int x1)] [] := by first | (simp [entryFrame, mkF, argsToLocals, Value.category]; done) | rfl
set_option maxRecDepth 65536 in
set_option maxHeartbeats 40000000 in
theorem rm3 (l : Launch) (Z : State) (a0 : Array Value) (hw : ∀ d ∈ tables_1, d.before a0 Z = true) (ws : List Jvm.Cond) (a1 : Addr) (p2 : Int32) (w4 : Addr) (cl : Cell) (z : Int32) (bt : Int32) (ch : Int32) (fr : Value) (cw : Int32) (h0 : Heap) (n0 : Nat) (Z0 : n0 ≤ h0.size) (E_a1 : Exa Z h0 a1 "java/lang/String") (F_value_a1 : Fld Z h0 a1 "java/lang/String" "value" "[B" (.ref w4)) (F_coder_a1 : Fld Z h0 a1 "java/lang/String" "coder" "B" (.int (0 : Int32))) (Ar : Arr Z h0 w4 cl .byte) (S : cl.slots.size = z.toNatClampNeg) (N : ¬ z < 0) (hin : ¬ (p2 < 0 ∨ cl.slots.size ≤ (p2).toNatClampNeg)) (hat : cl.slots[(p2).toNatClampNeg]? = some (.int bt)) (hch : ((bt &&& (255 : Int32)).toUInt32.toUInt16.toUInt32.toInt32) = ch) (hnc : nar .char ch = ch) (Scw : Sta Z h0 "java/lang/String" "COMPACT_STRINGS" "Z" (.int cw)) (hcw : ¬ (cw = (0 : Int32))) (Sfr : Sta Z h0 "jdk/internal/util/Preconditions" "SIOOBE_FORMATTER" "Ljava/util/function/BiFunction;" fr) (hfr : fr.isRef = true) (hc1 : ¬ (p2 < (0 : Int32))) (hc6 : p2 < z) :
    MetFree l (⟨"java/lang/String", "charAt", "(I)C"⟩ : MethodName) (head1 (Jvm.Cond.code (⟨"java/lang/String", "charAt", "(I)C"⟩ : MethodName) jdk_42_method_56_code 2 (some .char) :: ws) ({ frames := 3, cells := 0, slots := 0, locals := 40 } : Room)) (fun a U => a = #[(.ref a1), (.int p2)] ∧ Z.Warmed39 U.vm ∧ U.heap = h0) (fun _ _ _ _ _ => True) (fun _ U o U' => ∃ v L, o = .returned v ∧ QR (.int ch) h0 n0 v U'.heap L ∧ FrameEnd U o U' L ({ frames := 3, cells := 0, slots := 0, locals := 40 } : Room).cells ({ frames := 3, cells := 0, slots := 0, locals := 40 } : Room).slots) := by
  refine MetFree.of_bodySF (plainFor_of_name pn_3) hisR ?_
  intro p e s m args below meth c s₁ Bd hml0 hP hK
  obtain ⟨rfl, hZ, hh⟩ := hP
  have hx := Bd.exec
  have hby := Bd.bytes
  have hml : c.maxLocals = 2 := hml0
  have hown : s.vm.findClass "java/lang/String" = some m.cls := findClass_of_methodNamed Bd.named
  have hnm := (name_of_methodNamed Bd.named Bd.method).1
  have X0 : Stand p l e ({ frames := 3, cells := 0, slots := 0, locals := 40 } : Room) s m #[(.ref a1), (.int p2)] below meth c s₁ [] 0 0 := Stand.of_body Bd
  have e0 : s₁.heap = h0 := by rw [← hh, Bd.state]; rfl
  have N0 := Fr.nil n0
  have pre0 : ∀ t, Steps p.tables e below (s₁.setTop (mkF m 0 #[.val (.ref a1), .val (.int p2)] [])) t → Steps p.tables e below (s₁.setTop (entryFrame m #[(.ref a1), (.int p2)] 2)) t := fun t k => castTop (ef_3 m a1 p2) k
  obtain ⟨cq3, kq3, q3a, q3b, q3c⟩ := isOf hZ e0 E_a1
  obtain ⟨_, _, ⟨T3, L3, k3, n3⟩, -, X3, ⟨Lc3, hQ3, l3, y3, z3⟩, st3⟩ := X0.virtualBack hx (y := (⟨"java/lang/String", "isLatin1", "()Z"⟩ : MethodName)) (z := (⟨"java/lang/String", "isLatin1", "()Z"⟩ : MethodName)) hown (mvT hZ (hw _ (List.mem_of_getElem? (i := 32) rfl))) (mvT hZ (hw _ (List.mem_of_getElem? (i := 33) rfl))) (notFace_of_selects (args := #[]) (mvT hZ (hw _ (List.mem_of_getElem? (i := 35) rfl)))) (mvT hZ (hw _ (List.mem_of_getElem? (i := 35) rfl))) (mvT hZ (hw _ (List.mem_of_getElem? (i := 34) rfl))) (by decide) (backOf (W := 0) (rm4 l Z a0 hw [] a1 cw (0 : Int32) h0 n0 Z0 Scw F_coder_a1 hcw rfl) hZ (hw _ (List.mem_of_getElem? (i := 36) rfl)) (hw _ (List.mem_of_getElem? (i := 23) rfl)) (by decide) (by decide)) q3a q3c (g := (mkF m 1 #[.val (.ref a1), .val (.int p2)] [(.ref a1)])) rfl (by rw [hml]; rfl) (Steps.refl _) (argsL := []) (rest := []) (lenOf pd_3_1 rfl) rfl (by show 2 * 0 + _ ≤ _; exact Nat.le_of_eq rfl) (hb hby d3_1) (fun _ _ => ⟨rfl, e0, (by decide : 0 + 0 ≤ _), (by decide : 0 + 0 ≤ _)⟩)
  dsimp only [Pt.U, Pt.locs, Pt.cells, Pt.slots] at X3 l3 y3 z3 st3 hQ3
  subst l3 y3 z3
  obtain ⟨rfl, N3q, e3⟩ := hQ3
  have N3 := Fr.app N0 N3q
  obtain ⟨T5, X5, e5, st5⟩ := getF X3 hx hZ hown (host := "") (Or.inl (hw _ (List.mem_of_getElem? (i := 25) rfl))) Via.refl e3 F_value_a1 (g := (mkF m 8 #[.val (.ref a1), .val (.int p2)] [(.ref a1)])) rfl rfl (hb hby d3_8)
  obtain ⟨_, _, ⟨T6, L6, k6, n6⟩, -, X6, ⟨Lc6, hQ6, l6, y6, z6⟩, st6⟩ := Jvm.LawKit.callS X5 hx (y := (⟨"java/lang/StringLatin1", "charAt", "([BI)C"⟩ : MethodName)) hown (mvT hZ (hw _ (List.mem_of_getElem? (i := 40) rfl))) (mvT hZ (hw _ (List.mem_of_getElem? (i := 41) rfl))) (mvT hZ (hw _ (List.mem_of_getElem? (i := 42) rfl))) (mvT hZ (hw _ (List.mem_of_getElem? (i := 43) rfl))) (by decide) (backOf (W := 0) (rm5 l Z a0 hw [] w4 p2 cl z bt ch fr h0 n0 Z0 Ar S N hin hat hch hnc Sfr hfr hc1 hc6) hZ (hw _ (List.mem_of_getElem? (i := 43) rfl)) (hw _ (List.mem_of_getElem? (i := 42) rfl)) (by decide) (by decide)) (g := (mkF m 12 #[.val (.ref a1), .val (.int p2)] [(.int p2), (.ref w4)])) rfl (by rw [hml]; rfl) (argsL := [(.ref w4), (.int p2)]) (rest := []) (lenOf pd_3_3 rfl) rfl (by show 2 * 0 + _ ≤ _; exact Nat.le_of_eq rfl) (hb hby d3_12) (fun _ _ => ⟨rfl, e5, (by decide : 0 + 0 ≤ _), (by decide : 0 + 0 ≤ _)⟩)
  dsimp only [Pt.U, Pt.locs, Pt.cells, Pt.slots] at X6 l6 y6 z6 st6 hQ6
  subst l6 y6 z6
  obtain ⟨rfl, N6q, e6⟩ := hQ6
  have N6 := Fr.app N3 N6q
  obtain ⟨fs, hr, hrun, hended, hW, hsame⟩ := X6.leave (v := some (.int ch)) (fun h => by rw [Bd.returns] at h; cases h)
  refine ⟨_, _, pre0 _ ?_, hrun, hended, _, _, rfl, ?_, ⟨_, rfl⟩, hW, hsame.mono (by decide) (by decide)⟩
  · show Steps p.tables e below (s₁.setTop (mkF m 0 #[.val (.ref a1), .val (.int p2)] [])) _
    refine XS.aloadN X0.here hx rfl (hb hby d3_0) rfl rfl ?_
    show Steps p.tables e below (s₁.setTop (mkF m 1 #[.val (.ref a1), .val (.int p2)] [(.ref a1)])) _
    refine st3.trans ?_
    show Steps p.tables e below (T3.setTop (mkF m 4 #[.val (.ref a1), .val (.int p2)] [(.int (1 : Int32))])) _
    refine XS.ifNo X3.here hx rfl (hb hby d3_4) rfl ((if0 _ _).trans (feq (by decide : ¬ ((1 : Int32) = (0 : Int32)))).1) ?_
    show Steps p.tables e below (T3.setTop (mkF m 7 #[.val (.ref a1), .val (.int p2)] [])) _
    refine XS.aloadN X3.here hx rfl (hb hby d3_7) rfl rfl ?_
    show Steps p.tables e below (T3.setTop (mkF m 8 #[.val (.ref a1), .val (.int p2)] [(.ref a1)])) _
    refine st5 _ ?_
    show Steps p.tables e below (T5.setTop (mkF m 11 #[.val (.ref a1), .val (.int p2)] [(.ref w4)])) _
    refine XS.iloadN X5.here hx rfl (hb hby d3_11) rfl ?_
    show Steps p.tables e below (T5.setTop (mkF m 12 #[.val (.ref a1), .val (.int p2)] [(.int p2), (.ref w4)])) _
    refine st6 _ ?_
    show Steps p.tables e below (T6.setTop (mkF m 15 #[.val (.ref a1), .val (.int p2)] [(.int ch)])) _
    exact retN X6 hx (t := .char) Bd.returns (by simp) (hb hby d3_15) (by rw [hnc]; exact hr)
  · show QR (.int ch) h0 n0 _ T6.heap _
    exact ⟨rfl, N6, e6⟩

theorem d8_0 : decode jdk_42_method_54_code 0 = .ok (.aload_n 0, 1) := by decide +kernel
theorem d8_1 : decode jdk_42_method_54_code 1 = .ok (.getfield 9, 3) := by decide +kernel
theorem d8_4 : decode jdk_42_method_54_code 4 = .ok (.arraylength, 1) := by decide +kernel
theorem d8_5 : decode jdk_42_method_54_code 5 = .ok (.aload_n 0, 1) := by decide +kernel
theorem d8_6 : decode jdk_42_method_54_code 6 = .ok (.invokevirtual 335, 3) := by decide +kernel
theorem d8_9 : decode jdk_42_method_54_code 9 = .ok (.ishr, 1) := by decide +kernel
theorem d8_10 : decode jdk_42_method_54_code 10 = .ok (.ireturn, 1) := by decide +kernel
theorem pn_8 : plainName "java/lang/String" = true := by first | (simp [plainName, overriddenIn]; done) | decide +kernel
theorem pd_8_7 : parseMethodDescriptor "()B" = some ⟨[], some .byte⟩ := by decide +kernel
theorem ef_8 (m : MethodId) (x0 : Addr) : entryFrame m #[(.ref x0)] 1 = mkF m 0 #[.val (.ref x0)] [] := by first | (simp [entryFrame, mkF, argsToLocals, Value.category]; done) | rfl
set_option maxRecDepth 65536 in
set_option maxHeartbeats 40000000 in
theorem rm8 (l : Launch) (Z : State) (a0 : Array Value) (hw : ∀ d ∈ tables_1, d.before a0 Z = true) (ws : List Jvm.Cond) (a1 : Addr) (w2 : Addr) (cl_w2 : Cell) (z_w2 : Int32) (r : Int32) (cw : Int32) (h0 : Heap) (n0 : Nat) (Z0 : n0 ≤ h0.size) (F_value_a1 : Fld Z h0 a1 "java/lang/String" "value" "[B" (.ref w2)) (Ar_w2 : Arr Z h0 w2 cl_w2 .byte) (S_w2 : cl_w2.slots.size = z_w2.toNatClampNeg) (N_w2 : ¬ z_w2 < 0) (E_a1 : Exa Z h0 a1 "java/lang/String") (F_coder_a1 : Fld Z h0 a1 "java/lang/String" "coder" "B" (.int (0 : Int32))) (Scw : Sta Z h0 "java/lang/String" "COMPACT_STRINGS" "Z" (.int cw)) (hcw : ¬ (cw = (0 : Int32))) (hr0 : r = (z_w2 >>> ((0 : Int32) &&& 31))) :
    MetFree l (⟨"java/lang/String", "length", "()I"⟩ : MethodName) (head1 (Jvm.Cond.code (⟨"java/lang/String", "length", "()I"⟩ : MethodName) jdk_42_method_54_code 1 (some .int) :: ws) ({ frames := 1, cells := 0, slots := 0, locals := 13 } : Room)) (fun a U => a = #[(.ref a1)] ∧ Z.Warmed39 U.vm ∧ U.heap = h0) (fun _ _ _ _ _ => True) (fun _ U o U' => ∃ v L, o = .returned v ∧ QR (.int r) h0 n0 v U'.heap L ∧ FrameEnd U o U' L ({ frames := 1, cells := 0, slots := 0, locals := 13 } : Room).cells ({ frames := 1, cells := 0, slots := 0, locals := 13 } : Room).slots) := by
  subst hr0
  refine MetFree.of_bodySF (plainFor_of_name pn_8) hisR ?_
  intro p e s m args below meth c s₁ Bd hml0 hP hK
  obtain ⟨rfl, hZ, hh⟩ := hP
  have hx := Bd.exec
  have hby := Bd.bytes
  have hml : c.maxLocals = 1 := hml0
  have hown : s.vm.findClass "java/lang/String" = some m.cls := findClass_of_methodNamed Bd.named
  have hnm := (name_of_methodNamed Bd.named Bd.method).1
  have X0 : Stand p l e ({ frames := 1, cells := 0, slots := 0, locals := 13 } : Room) s m #[(.ref a1)] below meth c s₁ [] 0 0 := Stand.of_body Bd
  have e0 : s₁.heap = h0 := by rw [← hh, Bd.state]; rfl
  have N0 := Fr.nil n0
  have pre0 : ∀ t, Steps p.tables e below (s₁.setTop (mkF m 0 #[.val (.ref a1)] [])) t → Steps p.tables e below (s₁.setTop (entryFrame m #[(.ref a1)] 1)) t := fun t k => castTop (ef_8 m a1) k
  obtain ⟨T3, X3, e3, st3⟩ := getF X0 hx hZ hown (host := "") (Or.inl (hw _ (List.mem_of_getElem? (i := 25) rfl))) Via.refl e0 F_value_a1 (g := (mkF m 1 #[.val (.ref a1)] [(.ref a1)])) rfl rfl (hb hby d8_1)
  obtain ⟨cq4, kq4, q4a, q4b, q4c⟩ := isOf hZ e3 E_a1
  obtain ⟨_, _, ⟨T4, L4, k4, n4⟩, -, X4, ⟨Lc4, hQ4, l4, y4, z4⟩, st4⟩ := X3.virtualBack hx (y := (⟨"java/lang/String", "coder", "()B"⟩ : MethodName)) (z := (⟨"java/lang/String", "coder", "()B"⟩ : MethodName)) hown (mvT hZ (hw _ (List.mem_of_getElem? (i := 57) rfl))) (mvT hZ (hw _ (List.mem_of_getElem? (i := 58) rfl))) (notFace_of_selects (args := #[]) (mvT hZ (hw _ (List.mem_of_getElem? (i := 60) rfl)))) (mvT hZ (hw _ (List.mem_of_getElem? (i := 60) rfl))) (mvT hZ (hw _ (List.mem_of_getElem? (i := 59) rfl))) (by decide) (backOf (W := 1) (rm9 l Z a0 hw [] a1 cw h0 n0 Z0 Scw F_coder_a1 hcw) hZ (hw _ (List.mem_of_getElem? (i := 61) rfl)) (hw _ (List.mem_of_getElem? (i := 23) rfl)) (by decide) (by decide)) q4a q4c (g := (mkF m 6 #[.val (.ref a1)] [(.ref a1), (.int z_w2)])) rfl (by rw [hml]; rfl) (Steps.refl _) (argsL := []) (rest := [(.int z_w2)]) (lenOf pd_8_7 rfl) rfl (by show 2 * 0 + _ ≤ _; exact Nat.le_of_eq rfl) (hb hby d8_6) (fun _ _ => ⟨rfl, e3, (by decide : 0 + 0 ≤ _), (by decide : 0 + 0 ≤ _)⟩)
  dsimp only [Pt.U, Pt.locs, Pt.cells, Pt.slots] at X4 l4 y4 z4 st4 hQ4
  subst l4 y4 z4
  obtain ⟨rfl, N4q, e4⟩ := hQ4
  have N4 := Fr.app N0 N4q
  obtain ⟨fs, hr, hrun, hended, hW, hsame⟩ := X4.leave (v := some (.int (z_w2 >>> ((0 : Int32) &&& 31)))) (fun h => by rw [Bd.returns] at h; cases h)
  refine ⟨_, _, pre0 _ ?_, hrun, hended, _, _, rfl, ?_, ⟨_, rfl⟩, hW, hsame.mono (by decide) (by decide)⟩
  · show Steps p.tables e below (s₁.setTop (mkF m 0 #[.val (.ref a1)] [])) _
    refine XS.aloadN X0.here hx rfl (hb hby d8_0) rfl rfl ?_
    show Steps p.tables e below (s₁.setTop (mkF m 1 #[.val (.ref a1)] [(.ref a1)])) _
    refine st3 _ ?_
    show Steps p.tables e below (T3.setTop (mkF m 4 #[.val (.ref a1)] [(.ref w2)])) _
    refine X3.arraylength hx (by rw [e3]; exact Ar_w2.1) (State.isArrayOf_alike hZ.alike Ar_w2.2.1) (g := (mkF m 4 #[.val (.ref a1)] [(.ref w2)])) rfl rfl (hb hby d8_4) _ ?_
    rw [len_of S_w2 N_w2]
    show Steps p.tables e below (T3.setTop (mkF m 5 #[.val (.ref a1)] [(.int z_w2)])) _
    refine XS.aloadN X3.here hx rfl (hb hby d8_5) rfl rfl ?_
    show Steps p.tables e below (T3.setTop (mkF m 6 #[.val (.ref a1)] [(.ref a1), (.int z_w2)])) _
    refine st4.trans ?_
    show Steps p.tables e below (T4.setTop (mkF m 9 #[.val (.ref a1)] [(.int (0 : Int32)), (.int z_w2)])) _
    refine XS.ishr X4.here hx rfl (hb hby d8_9) rfl ?_
    show Steps p.tables e below (T4.setTop (mkF m 10 #[.val (.ref a1)] [(.int (z_w2 >>> ((0 : Int32) &&& 31)))])) _
    exact retI X4 hx Bd.returns (hb hby d8_10) hr
  · show QR (.int _) h0 n0 _ T4.heap _
    exact ⟨rfl, N4, e4⟩

theorem d10_0 : decode prog_49_method_5_code 0 = .ok (.aload_n 0, 1) := by decide +kernel
theorem d10_1 : decode prog_49_method_5_code 1 = .ok (.invokevirtual 39, 3) := by decide +kernel
theorem pn_10 : plainName "com/example/balanza/balanza/logic/Comparison" = true := by first | (simp [plainName, overriddenIn]; done) | decide +kernel
theorem pd_10_6 : parseMethodDescriptor "()I" = some ⟨[], some .int⟩ := by decide +kernel
theorem ef_10 (m : MethodId) (x0 : Addr) (x1 : Int32) : entryFrame m #[(.ref x0), (.int x1)] 3 = mkF m 0 #[.val (.ref x0), .val (.int x1), .unset] [] := by first | (simp [entryFrame, mkF, argsToLocals, Value.category]; done) | rfl

theorem d10_4 : decode prog_49_method_5_code 4 = .ok (.tableswitch 32 0 3 #[42, 54, 66, 78], 32) := by decide +kernel

theorem d10_92 : decode prog_49_method_5_code 92 = .ok (.iload_n 2, 1) := by decide +kernel

theorem d10_93 : decode prog_49_method_5_code 93 = .ok (.ireturn, 1) := by decide +kernel

theorem d10_46 : decode prog_49_method_5_code 46 = .ok (.iload_n 1, 1) := by decide +kernel
theorem d10_47 : decode prog_49_method_5_code 47 = .ok (.ifCond .ge 7, 3) := by decide +kernel
theorem d10_50 : decode prog_49_method_5_code 50 = .ok (.iconst 1, 1) := by decide +kernel
theorem d10_51 : decode prog_49_method_5_code 51 = .ok (.goto 40, 3) := by decide +kernel
theorem d10_91 : decode prog_49_method_5_code 91 = .ok (.istore_n 2, 1) := by decide +kernel
theorem os10_91_46 {s0 : Slot} {z1 : Value} {s2 : Slot} {v : Int32} (h : One s2) : storeLocals #[s0, .val z1, s2] 2 (.int v) = some #[s0, .val z1, .val (.int v)] := by
  rcases h with rfl | ⟨w, rfl, hw⟩
  · rfl
  · cases w <;> first | rfl | (simp [Value.category] at hw)
set_option maxRecDepth 65536 in
set_option maxHeartbeats 40000000 in
theorem own_h0_1 {p : Program} {l : Launch} {e : Env} {R : Room} {s : State} {m : MethodId} {args : Array Value} {below : List Frame} {meth : Method} {c : Code} {T0 : State} {locs : List Loc} {cells slots : Nat} {Z : State} {a0 : Array Value} {h0 : Heap} (s0 : Slot) (i1 : Int32) (s2 : Slot)
    (X0 : Stand p l e R s m args below meth c T0 locs cells slots) (hx : p.tables.exec = Jvm.exec) (hZ : Z.Warmed39 s.vm) (hw : ∀ d ∈ tables_1, d.before a0 Z = true) (hby : c.code = prog_49_method_5_code) (hml : c.maxLocals = 3) (hown : s.vm.findClass "com/example/balanza/balanza/logic/Comparison" = some m.cls) (e0 : T0.heap = h0) (hs2 : One s2) (hc47 : i1 < (0 : Int32)) :
    ∀ target, Steps p.tables e below (T0.setTop (mkF m 92 #[s0, .val (.int i1), .val (.int (1 : Int32))] [])) target → Steps p.tables e below (T0.setTop (mkF m 46 #[s0, .val (.int i1), s2] [])) target := by

  intro target kt
  show Steps p.tables e below (T0.setTop (mkF m 46 #[s0, .val (.int i1), s2] [])) _
  refine XS.iloadN X0.here hx rfl (hb hby d10_46) rfl ?_
  show Steps p.tables e below (T0.setTop (mkF m 47 #[s0, .val (.int i1), s2] [(.int i1)])) _
  refine XS.ifNo X0.here hx rfl (hb hby d10_47) rfl ((if0 _ _).trans (tlt hc47).2.1) ?_
  show Steps p.tables e below (T0.setTop (mkF m 50 #[s0, .val (.int i1), s2] [])) _
  refine XS.iconst X0.here hx rfl (hb hby d10_50) ?_
  show Steps p.tables e below (T0.setTop (mkF m 51 #[s0, .val (.int i1), s2] [(.int (1 : Int32))])) _
  refine XS.goto X0.here hx rfl (pc0 := 51) (pc' := 91) rfl (hb hby d10_51) (by decide) (by decide) ?_
  show Steps p.tables e below (T0.setTop (mkF m 91 #[s0, .val (.int i1), s2] [(.int (1 : Int32))])) _
  refine XS.istoreN X0.here hx rfl (hb hby d10_91) rfl (l' := #[s0, .val (.int i1), .val (.int (1 : Int32))]) (os10_91_46 hs2) ?_
  exact kt

theorem d10_54 : decode prog_49_method_5_code 54 = .ok (.iconst 0, 1) := by decide +kernel
theorem d10_55 : decode prog_49_method_5_code 55 = .ok (.goto 36, 3) := by decide +kernel

set_option maxRecDepth 65536 in
set_option maxHeartbeats 40000000 in
theorem own_h0_0 {p : Program} {l : Launch} {e : Env} {R : Room} {s : State} {m : MethodId} {args : Array Value} {below : List Frame} {meth : Method} {c : Code} {T0 : State} {locs : List Loc} {cells slots : Nat} {Z : State} {a0 : Array Value} {h0 : Heap} (s0 : Slot) (i1 : Int32) (s2 : Slot)
    (X0 : Stand p l e R s m args below meth c T0 locs cells slots) (hx : p.tables.exec = Jvm.exec) (hZ : Z.Warmed39 s.vm) (hw : ∀ d ∈ tables_1, d.before a0 Z = true) (hby : c.code = prog_49_method_5_code) (hml : c.maxLocals = 3) (hown : s.vm.findClass "com/example/balanza/balanza/logic/Comparison" = some m.cls) (e0 : T0.heap = h0) (hs2 : One s2) (hc47 : ¬ (i1 < (0 : Int32))) :
    ∀ target, Steps p.tables e below (T0.setTop (mkF m 92 #[s0, .val (.int i1), .val (.int (0 : Int32))] [])) target → Steps p.tables e below (T0.setTop (mkF m 46 #[s0, .val (.int i1), s2] [])) target := by

  intro target kt
  show Steps p.tables e below (T0.setTop (mkF m 46 #[s0, .val (.int i1), s2] [])) _
  refine XS.iloadN X0.here hx rfl (hb hby d10_46) rfl ?_
  show Steps p.tables e below (T0.setTop (mkF m 47 #[s0, .val (.int i1), s2] [(.int i1)])) _
  refine XS.ifYes X0.here hx rfl (pc0 := 47) (pc' := 54) rfl (hb hby d10_47) rfl ((if0 _ _).trans (flt hc47).2.1) (by decide) (by decide) ?_
  show Steps p.tables e below (T0.setTop (mkF m 54 #[s0, .val (.int i1), s2] [])) _
  refine XS.iconst X0.here hx rfl (hb hby d10_54) ?_
  show Steps p.tables e below (T0.setTop (mkF m 55 #[s0, .val (.int i1), s2] [(.int (0 : Int32))])) _
  refine XS.goto X0.here hx rfl (pc0 := 55) (pc' := 91) rfl (hb hby d10_55) (by decide) (by decide) ?_
  show Steps p.tables e below (T0.setTop (mkF m 91 #[s0, .val (.int i1), s2] [(.int (0 : Int32))])) _
  refine XS.istoreN X0.here hx rfl (hb hby d10_91) rfl (l' := #[s0, .val (.int i1), .val (.int (0 : Int32))]) (os10_91_46 hs2) ?_
  exact kt

set_option maxRecDepth 65536 in
set_option maxHeartbeats 40000000 in
theorem rm10_0_1 (l : Launch) (Z : State) (a0 : Array Value) (hw : ∀ d ∈ tables_1, d.before a0 Z = true) (ws : List Jvm.Cond) (a1 : Addr) (p2 : Int32) (h0 : Heap) (n0 : Nat) (Z0 : n0 ≤ h0.size) (E_a1 : Exa Z h0 a1 "com/example/balanza/balanza/logic/Comparison") (F_ordinal_a1 : Fld Z h0 a1 "java/lang/Enum" "ordinal" "I" (.int (0 : Int32))) (hc : p2 < (0 : Int32)) :
    MetFree l (⟨"com/example/balanza/balanza/logic/Comparison", "holds", "(I)Z"⟩ : MethodName) (head1 (Jvm.Cond.code (⟨"com/example/balanza/balanza/logic/Comparison", "holds", "(I)Z"⟩ : MethodName) prog_49_method_5_code 3 (some .boolean) :: ws) ({ frames := 1, cells := 0, slots := 0, locals := 12 } : Room)) (fun a U => a = #[(.ref a1), (.int p2)] ∧ Z.Warmed39 U.vm ∧ U.heap = h0) (fun _ _ _ _ _ => True) (fun _ U o U' => ∃ v L, o = .returned v ∧ QR (.int (1 : Int32)) h0 n0 v U'.heap L ∧ FrameEnd U o U' L ({ frames := 1, cells := 0, slots := 0, locals := 12 } : Room).cells ({ frames := 1, cells := 0, slots := 0, locals := 12 } : Room).slots) := by
  refine MetFree.of_bodySF (plainFor_of_name pn_10) hisR ?_
  intro p e s m args below meth c s₁ Bd hml0 hP hK
  obtain ⟨rfl, hZ, hh⟩ := hP
  have hx := Bd.exec
  have hby := Bd.bytes
  have hml : c.maxLocals = 3 := hml0
  have hown : s.vm.findClass "com/example/balanza/balanza/logic/Comparison" = some m.cls := findClass_of_methodNamed Bd.named
  have hnm := (name_of_methodNamed Bd.named Bd.method).1
  have X0 : Stand p l e ({ frames := 1, cells := 0, slots := 0, locals := 12 } : Room) s m #[(.ref a1), (.int p2)] below meth c s₁ [] 0 0 := Stand.of_body Bd
  have e0 : s₁.heap = h0 := by rw [← hh, Bd.state]; rfl
  have N0 := Fr.nil n0
  have pre0 : ∀ t, Steps p.tables e below (s₁.setTop (mkF m 0 #[.val (.ref a1), .val (.int p2), .unset] [])) t → Steps p.tables e below (s₁.setTop (entryFrame m #[(.ref a1), (.int p2)] 3)) t := fun t k => castTop (ef_10 m a1 p2) k
  obtain ⟨cq3, kq3, q3a, q3b, q3c⟩ := isOf hZ e0 E_a1
  obtain ⟨_, _, ⟨T3, L3, k3, n3⟩, -, X3, ⟨Lc3, hQ3, l3, y3, z3⟩, st3⟩ := X0.virtualBackUp hx (x := (⟨"com/example/balanza/balanza/logic/Comparison", "ordinal", "()I"⟩ : MethodName)) (y := (⟨"java/lang/Enum", "ordinal", "()I"⟩ : MethodName)) (owner := "java/lang/Enum") hown (mvT hZ (hw _ (List.mem_of_getElem? (i := 67) rfl))) (mvT hZ (hw _ (List.mem_of_getElem? (i := 68) rfl))) (mvT hZ (hw _ (List.mem_of_getElem? (i := 69) rfl))) (by decide) (mvT hZ (hw _ (List.mem_of_getElem? (i := 71) rfl))) (mvT hZ (hw _ (List.mem_of_getElem? (i := 70) rfl))) (backOf (W := 0) (rm11 l Z a0 hw [] a1 (0 : Int32) h0 n0 Z0 F_ordinal_a1) hZ (hw _ (List.mem_of_getElem? (i := 73) rfl)) (hw _ (List.mem_of_getElem? (i := 72) rfl)) (by decide) (by decide)) q3a q3c (g := (mkF m 1 #[.val (.ref a1), .val (.int p2), .unset] [(.ref a1)])) rfl (by rw [hml]; rfl) (Steps.refl _) (argsL := []) (rest := []) (lenOf pd_10_6 rfl) rfl (by show 2 * 0 + _ ≤ _; exact Nat.le_of_eq rfl) (hb hby d10_1) (fun _ _ => ⟨rfl, e0, (by decide : 0 + 0 ≤ _), (by decide : 0 + 0 ≤ _)⟩)
  dsimp only [Pt.U, Pt.locs, Pt.cells, Pt.slots] at X3 l3 y3 z3 st3 hQ3
  subst l3 y3 z3
  obtain ⟨rfl, N3q, e3⟩ := hQ3
  have N3 := Fr.app N0 N3q

  obtain ⟨fs, hr, hrun, hended, hW, hsame⟩ := X3.leave (v := some (.int (1 : Int32))) (fun h => by rw [Bd.returns] at h; cases h)
  refine ⟨_, _, pre0 _ ?_, hrun, hended, _, _, rfl, ?_, ⟨_, rfl⟩, hW, hsame.mono (by decide) (by decide)⟩
  · show Steps p.tables e below (s₁.setTop (mkF m 0 #[.val (.ref a1), .val (.int p2), .unset] [])) _
    refine XS.aloadN X0.here hx rfl (hb hby d10_0) rfl rfl ?_
    show Steps p.tables e below (s₁.setTop (mkF m 1 #[.val (.ref a1), .val (.int p2), .unset] [(.ref a1)])) _
    refine st3.trans ?_
    show Steps p.tables e below (T3.setTop (mkF m 4 #[.val (.ref a1), .val (.int p2), .unset] [(.int (0 : Int32))])) _
    refine X3.tableswitchIn hx (g := (mkF m 4 #[.val (.ref a1), .val (.int p2), .unset] [(.int (0 : Int32))])) rfl rfl (hb hby d10_4) (by decide) (off := 42) rfl (by show (0 : Int) ≤ ((4 : Nat) : Int) + 42; decide) _ ?_
    show Steps p.tables e below (T3.setTop (mkF m 46 #[.val (.ref a1), .val (.int p2), .unset] [])) _
    refine own_h0_1 _ _ _ X3 hx hZ hw hby hml hown rfl One.u hc _ ?_
    show Steps p.tables e below (T3.setTop (mkF m 92 #[.val (.ref a1), .val (.int p2), .val (.int (1 : Int32))] [])) _
    refine XS.iloadN X3.here hx rfl (hb hby d10_92) rfl ?_
    show Steps p.tables e below (T3.setTop (mkF m 93 #[.val (.ref a1), .val (.int p2), .val (.int (1 : Int32))] [(.int (1 : Int32))])) _
    exact retN X3 hx (t := .boolean) Bd.returns (by simp) (hb hby d10_93) hr
  · show QR (.int (1 : Int32)) h0 n0 _ T3.heap _
    exact ⟨rfl, N3, e3⟩

set_option maxRecDepth 65536 in
set_option maxHeartbeats 40000000 in
theorem rm10_0_0 (l : Launch) (Z : State) (a0 : Array Value) (hw : ∀ d ∈ tables_1, d.before a0 Z = true) (ws : List Jvm.Cond) (a1 : Addr) (p2 : Int32) (h0 : Heap) (n0 : Nat) (Z0 : n0 ≤ h0.size) (E_a1 : Exa Z h0 a1 "com/example/balanza/balanza/logic/Comparison") (F_ordinal_a1 : Fld Z h0 a1 "java/lang/Enum" "ordinal" "I" (.int (0 : Int32))) (hc : ¬ (p2 < (0 : Int32))) :
    MetFree l (⟨"com/example/balanza/balanza/logic/Comparison", "holds", "(I)Z"⟩ : MethodName) (head1 (Jvm.Cond.code (⟨"com/example/balanza/balanza/logic/Comparison", "holds", "(I)Z"⟩ : MethodName) prog_49_method_5_code 3 (some .boolean) :: ws) ({ frames := 1, cells := 0, slots := 0, locals := 12 } : Room)) (fun a U => a = #[(.ref a1), (.int p2)] ∧ Z.Warmed39 U.vm ∧ U.heap = h0) (fun _ _ _ _ _ => True) (fun _ U o U' => ∃ v L, o = .returned v ∧ QR (.int (0 : Int32)) h0 n0 v U'.heap L ∧ FrameEnd U o U' L ({ frames := 1, cells := 0, slots := 0, locals := 12 } : Room).cells ({ frames := 1, cells := 0, slots := 0, locals := 12 } : Room).slots) := by
  refine MetFree.of_bodySF (plainFor_of_name pn_10) hisR ?_
  intro p e s m args below meth c s₁ Bd hml0 hP hK
  obtain ⟨rfl, hZ, hh⟩ := hP
  have hx := Bd.exec
  have hby := Bd.bytes
  have hml : c.maxLocals = 3 := hml0
  have hown : s.vm.findClass "com/example/balanza/balanza/logic/Comparison" = some m.cls := findClass_of_methodNamed Bd.named
  have hnm := (name_of_methodNamed Bd.named Bd.method).1
  have X0 : Stand p l e ({ frames := 1, cells := 0, slots := 0, locals := 12 } : Room) s m #[(.ref a1), (.int p2)] below meth c s₁ [] 0 0 := Stand.of_body Bd
  have e0 : s₁.heap = h0 := by rw [← hh, Bd.state]; rfl
  have N0 := Fr.nil n0
  have pre0 : ∀ t, Steps p.tables e below (s₁.setTop (mkF m 0 #[.val (.ref a1), .val (.int p2), .unset] [])) t → Steps p.tables e below (s₁.setTop (entryFrame m #[(.ref a1), (.int p2)] 3)) t := fun t k => castTop (ef_10 m a1 p2) k
  obtain ⟨cq3, kq3, q3a, q3b, q3c⟩ := isOf hZ e0 E_a1
  obtain ⟨_, _, ⟨T3, L3, k3, n3⟩, -, X3, ⟨Lc3, hQ3, l3, y3, z3⟩, st3⟩ := X0.virtualBackUp hx (x := (⟨"com/example/balanza/balanza/logic/Comparison", "ordinal", "()I"⟩ : MethodName)) (y := (⟨"java/lang/Enum", "ordinal", "()I"⟩ : MethodName)) (owner := "java/lang/Enum") hown (mvT hZ (hw _ (List.mem_of_getElem? (i := 67) rfl))) (mvT hZ (hw _ (List.mem_of_getElem? (i := 68) rfl))) (mvT hZ (hw _ (List.mem_of_getElem? (i := 69) rfl))) (by decide) (mvT hZ (hw _ (List.mem_of_getElem? (i := 71) rfl))) (mvT hZ (hw _ (List.mem_of_getElem? (i := 70) rfl))) (backOf (W := 0) (rm11 l Z a0 hw [] a1 (0 : Int32) h0 n0 Z0 F_ordinal_a1) hZ (hw _ (List.mem_of_getElem? (i := 73) rfl)) (hw _ (List.mem_of_getElem? (i := 72) rfl)) (by decide) (by decide)) q3a q3c (g := (mkF m 1 #[.val (.ref a1), .val (.int p2), .unset] [(.ref a1)])) rfl (by rw [hml]; rfl) (Steps.refl _) (argsL := []) (rest := []) (lenOf pd_10_6 rfl) rfl (by show 2 * 0 + _ ≤ _; exact Nat.le_of_eq rfl) (hb hby d10_1) (fun _ _ => ⟨rfl, e0, (by decide : 0 + 0 ≤ _), (by decide : 0 + 0 ≤ _)⟩)
  dsimp only [Pt.U, Pt.locs, Pt.cells, Pt.slots] at X3 l3 y3 z3 st3 hQ3
  subst l3 y3 z3
  obtain ⟨rfl, N3q, e3⟩ := hQ3
  have N3 := Fr.app N0 N3q

  obtain ⟨fs, hr, hrun, hended, hW, hsame⟩ := X3.leave (v := some (.int (0 : Int32))) (fun h => by rw [Bd.returns] at h; cases h)
  refine ⟨_, _, pre0 _ ?_, hrun, hended, _, _, rfl, ?_, ⟨_, rfl⟩, hW, hsame.mono (by decide) (by decide)⟩
  · show Steps p.tables e below (s₁.setTop (mkF m 0 #[.val (.ref a1), .val (.int p2), .unset] [])) _
    refine XS.aloadN X0.here hx rfl (hb hby d10_0) rfl rfl ?_
    show Steps p.tables e below (s₁.setTop (mkF m 1 #[.val (.ref a1), .val (.int p2), .unset] [(.ref a1)])) _
    refine st3.trans ?_
    show Steps p.tables e below (T3.setTop (mkF m 4 #[.val (.ref a1), .val (.int p2), .unset] [(.int (0 : Int32))])) _
    refine X3.tableswitchIn hx (g := (mkF m 4 #[.val (.ref a1), .val (.int p2), .unset] [(.int (0 : Int32))])) rfl rfl (hb hby d10_4) (by decide) (off := 42) rfl (by show (0 : Int) ≤ ((4 : Nat) : Int) + 42; decide) _ ?_
    show Steps p.tables e below (T3.setTop (mkF m 46 #[.val (.ref a1), .val (.int p2), .unset] [])) _
    refine own_h0_0 _ _ _ X3 hx hZ hw hby hml hown rfl One.u hc _ ?_
    show Steps p.tables e below (T3.setTop (mkF m 92 #[.val (.ref a1), .val (.int p2), .val (.int (0 : Int32))] [])) _
    refine XS.iloadN X3.here hx rfl (hb hby d10_92) rfl ?_
    show Steps p.tables e below (T3.setTop (mkF m 93 #[.val (.ref a1), .val (.int p2), .val (.int (0 : Int32))] [(.int (0 : Int32))])) _
    exact retN X3 hx (t := .boolean) Bd.returns (by simp) (hb hby d10_93) hr
  · show QR (.int (0 : Int32)) h0 n0 _ T3.heap _
    exact ⟨rfl, N3, e3⟩

theorem rm10_0 (l : Launch) (Z : State) (a0 : Array Value) (hw : ∀ d ∈ tables_1, d.before a0 Z = true) (ws : List Jvm.Cond) (a1 : Addr) (p2 : Int32) (r : Int32) (h0 : Heap) (n0 : Nat) (Z0 : n0 ≤ h0.size) (E_a1 : Exa Z h0 a1 "com/example/balanza/balanza/logic/Comparison") (F_ordinal_a1 : Fld Z h0 a1 "java/lang/Enum" "ordinal" "I" (.int (0 : Int32))) (hr : own_r0 p2 r) :
    MetFree l (⟨"com/example/balanza/balanza/logic/Comparison", "holds", "(I)Z"⟩ : MethodName) (head1 (Jvm.Cond.code (⟨"com/example/balanza/balanza/logic/Comparison", "holds", "(I)Z"⟩ : MethodName) prog_49_method_5_code 3 (some .boolean) :: ws) ({ frames := 1, cells := 0, slots := 0, locals := 12 } : Room)) (fun a U => a = #[(.ref a1), (.int p2)] ∧ Z.Warmed39 U.vm ∧ U.heap = h0) (fun _ _ _ _ _ => True) (fun _ U o U' => ∃ v L, o = .returned v ∧ QR (.int r) h0 n0 v U'.heap L ∧ FrameEnd U o U' L ({ frames := 1, cells := 0, slots := 0, locals := 12 } : Room).cells ({ frames := 1, cells := 0, slots := 0, locals := 12 } : Room).slots) := by
  rcases hr with ⟨q, rfl⟩ | ⟨q, rfl⟩
  · exact rm10_0_1 l Z a0 hw ws a1 p2 h0 n0 Z0 E_a1 F_ordinal_a1 q
  · exact rm10_0_0 l Z a0 hw ws a1 p2 h0 n0 Z0 E_a1 F_ordinal_a1 q

theorem d10_58 : decode prog_49_method_5_code 58 = .ok (.iload_n 1, 1) := by decide +kernel
theorem d10_59 : decode prog_49_method_5_code 59 = .ok (.ifCond .gt 7, 3) := by decide +kernel
theorem d10_62 : decode prog_49_method_5_code 62 = .ok (.iconst 1, 1) := by decide +kernel
theorem d10_63 : decode prog_49_method_5_code 63 = .ok (.goto 28, 3) := by decide +kernel
theorem os10_91_58 {s0 : Slot} {z1 : Value} {s2 : Slot} {v : Int32} (h : One s2) : storeLocals #[s0, .val z1, s2] 2 (.int v) = some #[s0, .val z1, .val (.int v)] := by
  rcases h with rfl | ⟨w, rfl, hw⟩
  · rfl
  · cases w <;> first | rfl | (simp [Value.category] at hw)
set_option maxRecDepth 65536 in
set_option maxHeartbeats 40000000 in
theorem own_h1_1 {p : Program} {l : Launch} {e : Env} {R : Room} {s : State} {m : MethodId} {args : Array Value} {below : List Frame} {meth : Method} {c : Code} {T0 : State} {locs : List Loc} {cells slots : Nat} {Z : State} {a0 : Array Value} {h0 : Heap} (s0 : Slot) (i1 : Int32) (s2 : Slot)
    (X0 : Stand p l e R s m args below meth c T0 locs cells slots) (hx : p.tables.exec = Jvm.exec) (hZ : Z.Warmed39 s.vm) (hw : ∀ d ∈ tables_1, d.before a0 Z = true) (hby : c.code = prog_49_method_5_code) (hml : c.maxLocals = 3) (hown : s.vm.findClass "com/example/balanza/balanza/logic/Comparison" = some m.cls) (e0 : T0.heap = h0) (hs2 : One s2) (hc59 : ¬ ((0 : Int32) < i1)) :
    ∀ target, Steps p.tables e below (T0.setTop (mkF m 92 #[s0, .val (.int i1), .val (.int (1 : Int32))] [])) target → Steps p.tables e below (T0.setTop (mkF m 58 #[s0, .val (.int i1), s2] [])) target := by

  intro target kt
  show Steps p.tables e below (T0.setTop (mkF m 58 #[s0, .val (.int i1), s2] [])) _
  refine XS.iloadN X0.here hx rfl (hb hby d10_58) rfl ?_
  show Steps p.tables e below (T0.setTop (mkF m 59 #[s0, .val (.int i1), s2] [(.int i1)])) _
  refine XS.ifNo X0.here hx rfl (hb hby d10_59) rfl ((if0 _ _).trans (flt hc59).2.2.1) ?_
  show Steps p.tables e below (T0.setTop (mkF m 62 #[s0, .val (.int i1), s2] [])) _
  refine XS.iconst X0.here hx rfl (hb hby d10_62) ?_
  show Steps p.tables e below (T0.setTop (mkF m 63 #[s0, .val (.int i1), s2] [(.int (1 : Int32))])) _
  refine XS.goto X0.here hx rfl (pc0 := 63) (pc' := 91) rfl (hb hby d10_63) (by decide) (by decide) ?_
  show Steps p.tables e below (T0.setTop (mkF m 91 #[s0, .val (.int i1), s2] [(.int (1 : Int32))])) _
  refine XS.istoreN X0.here hx rfl (hb hby d10_91) rfl (l' := #[s0, .val (.int i1), .val (.int (1 : Int32))]) (os10_91_58 hs2) ?_
  exact kt

theorem d10_66 : decode prog_49_method_5_code 66 = .ok (.iconst 0, 1) := by decide +kernel
theorem d10_67 : decode prog_49_method_5_code 67 = .ok (.goto 24, 3) := by decide +kernel

set_option maxRecDepth 65536 in
set_option maxHeartbeats 40000000 in
theorem own_h1_0 {p : Program} {l : Launch} {e : Env} {R : Room} {s : State} {m : MethodId} {args : Array Value} {below : List Frame} {meth : Method} {c : Code} {T0 : State} {locs : List Loc} {cells slots : Nat} {Z : State} {a0 : Array Value} {h0 : Heap} (s0 : Slot) (i1 : Int32) (s2 : Slot)
    (X0 : Stand p l e R s m args below meth c T0 locs cells slots) (hx : p.tables.exec = Jvm.exec) (hZ : Z.Warmed39 s.vm) (hw : ∀ d ∈ tables_1, d.before a0 Z = true) (hby : c.code = prog_49_method_5_code) (hml : c.maxLocals = 3) (hown : s.vm.findClass "com/example/balanza/balanza/logic/Comparison" = some m.cls) (e0 : T0.heap = h0) (hs2 : One s2) (hc59 : (0 : Int32) < i1) :
    ∀ target, Steps p.tables e below (T0.setTop (mkF m 92 #[s0, .val (.int i1), .val (.int (0 : Int32))] [])) target → Steps p.tables e below (T0.setTop (mkF m 58 #[s0, .val (.int i1), s2] [])) target := by

  intro target kt
  show Steps p.tables e below (T0.setTop (mkF m 58 #[s0, .val (.int i1), s2] [])) _
  refine XS.iloadN X0.here hx rfl (hb hby d10_58) rfl ?_
  show Steps p.tables e below (T0.setTop (mkF m 59 #[s0, .val (.int i1), s2] [(.int i1)])) _
  refine XS.ifYes X0.here hx rfl (pc0 := 59) (pc' := 66) rfl (hb hby d10_59) rfl ((if0 _ _).trans (tlt hc59).2.2.1) (by decide) (by decide) ?_
  show Steps p.tables e below (T0.setTop (mkF m 66 #[s0, .val (.int i1), s2] [])) _
  refine XS.iconst X0.here hx rfl (hb hby d10_66) ?_
  show Steps p.tables e below (T0.setTop (mkF m 67 #[s0, .val (.int i1), s2] [(.int (0 : Int32))])) _
  refine XS.goto X0.here hx rfl (pc0 := 67) (pc' := 91) rfl (hb hby d10_67) (by decide) (by decide) ?_
  show Steps p.tables e below (T0.setTop (mkF m 91 #[s0, .val (.int i1), s2] [(.int (0 : Int32))])) _
  refine XS.istoreN X0.here hx rfl (hb hby d10_91) rfl (l' := #[s0, .val (.int i1), .val (.int (0 : Int32))]) (os10_91_58 hs2) ?_
  exact kt

set_option maxRecDepth 65536 in
set_option maxHeartbeats 40000000 in
theorem rm10_1_1 (l : Launch) (Z : State) (a0 : Array Value) (hw : ∀ d ∈ tables_1, d.before a0 Z = true) (ws : List Jvm.Cond) (a1 : Addr) (p2 : Int32) (h0 : Heap) (n0 : Nat) (Z0 : n0 ≤ h0.size) (E_a1 : Exa Z h0 a1 "com/example/balanza/balanza/logic/Comparison") (F_ordinal_a1 : Fld Z h0 a1 "java/lang/Enum" "ordinal" "I" (.int (1 : Int32))) (hc : ¬ ((0 : Int32) < p2)) :
    MetFree l (⟨"com/example/balanza/balanza/logic/Comparison", "holds", "(I)Z"⟩ : MethodName) (head1 (Jvm.Cond.code (⟨"com/example/balanza/balanza/logic/Comparison", "holds", "(I)Z"⟩ : MethodName) prog_49_method_5_code 3 (some .boolean) :: ws) ({ frames := 1, cells := 0, slots := 0, locals := 12 } : Room)) (fun a U => a = #[(.ref a1), (.int p2)] ∧ Z.Warmed39 U.vm ∧ U.heap = h0) (fun _ _ _ _ _ => True) (fun _ U o U' => ∃ v L, o = .returned v ∧ QR (.int (1 : Int32)) h0 n0 v U'.heap L ∧ FrameEnd U o U' L ({ frames := 1, cells := 0, slots := 0, locals := 12 } : Room).cells ({ frames := 1, cells := 0, slots := 0, locals := 12 } : Room).slots) := by
  refine MetFree.of_bodySF (plainFor_of_name pn_10) hisR ?_
  intro p e s m args below meth c s₁ Bd hml0 hP hK
  obtain ⟨rfl, hZ, hh⟩ := hP
  have hx := Bd.exec
  have hby := Bd.bytes
  have hml : c.maxLocals = 3 := hml0
  have hown : s.vm.findClass "com/example/balanza/balanza/logic/Comparison" = some m.cls := findClass_of_methodNamed Bd.named
  have hnm := (name_of_methodNamed Bd.named Bd.method).1
  have X0 : Stand p l e ({ frames := 1, cells := 0, slots := 0, locals := 12 } : Room) s m #[(.ref a1), (.int p2)] below meth c s₁ [] 0 0 := Stand.of_body Bd
  have e0 : s₁.heap = h0 := by rw [← hh, Bd.state]; rfl
  have N0 := Fr.nil n0
  have pre0 : ∀ t, Steps p.tables e below (s₁.setTop (mkF m 0 #[.val (.ref a1), .val (.int p2), .unset] [])) t → Steps p.tables e below (s₁.setTop (entryFrame m #[(.ref a1), (.int p2)] 3)) t := fun t k => castTop (ef_10 m a1 p2) k
  obtain ⟨cq3, kq3, q3a, q3b, q3c⟩ := isOf hZ e0 E_a1
  obtain ⟨_, _, ⟨T3, L3, k3, n3⟩, -, X3, ⟨Lc3, hQ3, l3, y3, z3⟩, st3⟩ := X0.virtualBackUp hx (x := (⟨"com/example/balanza/balanza/logic/Comparison", "ordinal", "()I"⟩ : MethodName)) (y := (⟨"java/lang/Enum", "ordinal", "()I"⟩ : MethodName)) (owner := "java/lang/Enum") hown (mvT hZ (hw _ (List.mem_of_getElem? (i := 67) rfl))) (mvT hZ (hw _ (List.mem_of_getElem? (i := 68) rfl))) (mvT hZ (hw _ (List.mem_of_getElem? (i := 69) rfl))) (by decide) (mvT hZ (hw _ (List.mem_of_getElem? (i := 71) rfl))) (mvT hZ (hw _ (List.mem_of_getElem? (i := 70) rfl))) (backOf (W := 0) (rm11 l Z a0 hw [] a1 (1 : Int32) h0 n0 Z0 F_ordinal_a1) hZ (hw _ (List.mem_of_getElem? (i := 73) rfl)) (hw _ (List.mem_of_getElem? (i := 72) rfl)) (by decide) (by decide)) q3a q3c (g := (mkF m 1 #[.val (.ref a1), .val (.int p2), .unset] [(.ref a1)])) rfl (by rw [hml]; rfl) (Steps.refl _) (argsL := []) (rest := []) (lenOf pd_10_6 rfl) rfl (by show 2 * 0 + _ ≤ _; exact Nat.le_of_eq rfl) (hb hby d10_1) (fun _ _ => ⟨rfl, e0, (by decide : 0 + 0 ≤ _), (by decide : 0 + 0 ≤ _)⟩)
  dsimp only [Pt.U, Pt.locs, Pt.cells, Pt.slots] at X3 l3 y3 z3 st3 hQ3
  subst l3 y3 z3
  obtain ⟨rfl, N3q, e3⟩ := hQ3
  have N3 := Fr.app N0 N3q

  obtain ⟨fs, hr, hrun, hended, hW, hsame⟩ := X3.leave (v := some (.int (1 : Int32))) (fun h => by rw [Bd.returns] at h; cases h)
  refine ⟨_, _, pre0 _ ?_, hrun, hended, _, _, rfl, ?_, ⟨_, rfl⟩, hW, hsame.mono (by decide) (by decide)⟩
  · show Steps p.tables e below (s₁.setTop (mkF m 0 #[.val (.ref a1), .val (.int p2), .unset] [])) _
    refine XS.aloadN X0.here hx rfl (hb hby d10_0) rfl rfl ?_
    show Steps p.tables e below (s₁.setTop (mkF m 1 #[.val (.ref a1), .val (.int p2), .unset] [(.ref a1)])) _
    refine st3.trans ?_
    show Steps p.tables e below (T3.setTop (mkF m 4 #[.val (.ref a1), .val (.int p2), .unset] [(.int (1 : Int32))])) _
    refine X3.tableswitchIn hx (g := (mkF m 4 #[.val (.ref a1), .val (.int p2), .unset] [(.int (1 : Int32))])) rfl rfl (hb hby d10_4) (by decide) (off := 54) rfl (by show (0 : Int) ≤ ((4 : Nat) : Int) + 54; decide) _ ?_
    show Steps p.tables e below (T3.setTop (mkF m 58 #[.val (.ref a1), .val (.int p2), .unset] [])) _
    refine own_h1_1 _ _ _ X3 hx hZ hw hby hml hown rfl One.u hc _ ?_
    show Steps p.tables e below (T3.setTop (mkF m 92 #[.val (.ref a1), .val (.int p2), .val (.int (1 : Int32))] [])) _
    refine XS.iloadN X3.here hx rfl (hb hby d10_92) rfl ?_
    show Steps p.tables e below (T3.setTop (mkF m 93 #[.val (.ref a1), .val (.int p2), .val (.int (1 : Int32))] [(.int (1 : Int32))])) _
    exact retN X3 hx (t := .boolean) Bd.returns (by simp) (hb hby d10_93) hr
  · show QR (.int (1 : Int32)) h0 n0 _ T3.heap _
    exact ⟨rfl, N3, e3⟩

set_option maxRecDepth 65536 in
set_option maxHeartbeats 40000000 in
theorem rm10_1_0 (l : Launch) (Z : State) (a0 : Array Value) (hw : ∀ d ∈ tables_1, d.before a0 Z = true) (ws : List Jvm.Cond) (a1 : Addr) (p2 : Int32) (h0 : Heap) (n0 : Nat) (Z0 : n0 ≤ h0.size) (E_a1 : Exa Z h0 a1 "com/example/balanza/balanza/logic/Comparison") (F_ordinal_a1 : Fld Z h0 a1 "java/lang/Enum" "ordinal" "I" (.int (1 : Int32))) (hc : (0 : Int32) < p2) :
    MetFree l (⟨"com/example/balanza/balanza/logic/Comparison", "holds", "(I)Z"⟩ : MethodName) (head1 (Jvm.Cond.code (⟨"com/example/balanza/balanza/logic/Comparison", "holds", "(I)Z"⟩ : MethodName) prog_49_method_5_code 3 (some .boolean) :: ws) ({ frames := 1, cells := 0, slots := 0, locals := 12 } : Room)) (fun a U => a = #[(.ref a1), (.int p2)] ∧ Z.Warmed39 U.vm ∧ U.heap = h0) (fun _ _ _ _ _ => True) (fun _ U o U' => ∃ v L, o = .returned v ∧ QR (.int (0 : Int32)) h0 n0 v U'.heap L ∧ FrameEnd U o U' L ({ frames := 1, cells := 0, slots := 0, locals := 12 } : Room).cells ({ frames := 1, cells := 0, slots := 0, locals := 12 } : Room).slots) := by
  refine MetFree.of_bodySF (plainFor_of_name pn_10) hisR ?_
  intro p e s m args below meth c s₁ Bd hml0 hP hK
  obtain ⟨rfl, hZ, hh⟩ := hP
  have hx := Bd.exec
  have hby := Bd.bytes
  have hml : c.maxLocals = 3 := hml0
  have hown : s.vm.findClass "com/example/balanza/balanza/logic/Comparison" = some m.cls := findClass_of_methodNamed Bd.named
  have hnm := (name_of_methodNamed Bd.named Bd.method).1
  have X0 : Stand p l e ({ frames := 1, cells := 0, slots := 0, locals := 12 } : Room) s m #[(.ref a1), (.int p2)] below meth c s₁ [] 0 0 := Stand.of_body Bd
  have e0 : s₁.heap = h0 := by rw [← hh, Bd.state]; rfl
  have N0 := Fr.nil n0
  have pre0 : ∀ t, Steps p.tables e below (s₁.setTop (mkF m 0 #[.val (.ref a1), .val (.int p2), .unset] [])) t → Steps p.tables e below (s₁.setTop (entryFrame m #[(.ref a1), (.int p2)] 3)) t := fun t k => castTop (ef_10 m a1 p2) k
  obtain ⟨cq3, kq3, q3a, q3b, q3c⟩ := isOf hZ e0 E_a1
  obtain ⟨_, _, ⟨T3, L3, k3, n3⟩, -, X3, ⟨Lc3, hQ3, l3, y3, z3⟩, st3⟩ := X0.virtualBackUp hx (x := (⟨"com/example/balanza/balanza/logic/Comparison", "ordinal", "()I"⟩ : MethodName)) (y := (⟨"java/lang/Enum", "ordinal", "()I"⟩ : MethodName)) (owner := "java/lang/Enum") hown (mvT hZ (hw _ (List.mem_of_getElem? (i := 67) rfl))) (mvT hZ (hw _ (List.mem_of_getElem? (i := 68) rfl))) (mvT hZ (hw _ (List.mem_of_getElem? (i := 69) rfl))) (by decide) (mvT hZ (hw _ (List.mem_of_getElem? (i := 71) rfl))) (mvT hZ (hw _ (List.mem_of_getElem? (i := 70) rfl))) (backOf (W := 0) (rm11 l Z a0 hw [] a1 (1 : Int32) h0 n0 Z0 F_ordinal_a1) hZ (hw _ (List.mem_of_getElem? (i := 73) rfl)) (hw _ (List.mem_of_getElem? (i := 72) rfl)) (by decide) (by decide)) q3a q3c (g := (mkF m 1 #[.val (.ref a1), .val (.int p2), .unset] [(.ref a1)])) rfl (by rw [hml]; rfl) (Steps.refl _) (argsL := []) (rest := []) (lenOf pd_10_6 rfl) rfl (by show 2 * 0 + _ ≤ _; exact Nat.le_of_eq rfl) (hb hby d10_1) (fun _ _ => ⟨rfl, e0, (by decide : 0 + 0 ≤ _), (by decide : 0 + 0 ≤ _)⟩)
  dsimp only [Pt.U, Pt.locs, Pt.cells, Pt.slots] at X3 l3 y3 z3 st3 hQ3
  subst l3 y3 z3
  obtain ⟨rfl, N3q, e3⟩ := hQ3
  have N3 := Fr.app N0 N3q

  obtain ⟨fs, hr, hrun, hended, hW, hsame⟩ := X3.leave (v := some (.int (0 : Int32))) (fun h => by rw [Bd.returns] at h; cases h)
  refine ⟨_, _, pre0 _ ?_, hrun, hended, _, _, rfl, ?_, ⟨_, rfl⟩, hW, hsame.mono (by decide) (by decide)⟩
  · show Steps p.tables e below (s₁.setTop (mkF m 0 #[.val (.ref a1), .val (.int p2), .unset] [])) _
    refine XS.aloadN X0.here hx rfl (hb hby d10_0) rfl rfl ?_
    show Steps p.tables e below (s₁.setTop (mkF m 1 #[.val (.ref a1), .val (.int p2), .unset] [(.ref a1)])) _
    refine st3.trans ?_
    show Steps p.tables e below (T3.setTop (mkF m 4 #[.val (.ref a1), .val (.int p2), .unset] [(.int (1 : Int32))])) _
    refine X3.tableswitchIn hx (g := (mkF m 4 #[.val (.ref a1), .val (.int p2), .unset] [(.int (1 : Int32))])) rfl rfl (hb hby d10_4) (by decide) (off := 54) rfl (by show (0 : Int) ≤ ((4 : Nat) : Int) + 54; decide) _ ?_
    show Steps p.tables e below (T3.setTop (mkF m 58 #[.val (.ref a1), .val (.int p2), .unset] [])) _
    refine own_h1_0 _ _ _ X3 hx hZ hw hby hml hown rfl One.u hc _ ?_
    show Steps p.tables e below (T3.setTop (mkF m 92 #[.val (.ref a1), .val (.int p2), .val (.int (0 : Int32))] [])) _
    refine XS.iloadN X3.here hx rfl (hb hby d10_92) rfl ?_
    show Steps p.tables e below (T3.setTop (mkF m 93 #[.val (.ref a1), .val (.int p2), .val (.int (0 : Int32))] [(.int (0 : Int32))])) _
    exact retN X3 hx (t := .boolean) Bd.returns (by simp) (hb hby d10_93) hr
  · show QR (.int (0 : Int32)) h0 n0 _ T3.heap _
    exact ⟨rfl, N3, e3⟩

theorem rm10_1 (l : Launch) (Z : State) (a0 : Array Value) (hw : ∀ d ∈ tables_1, d.before a0 Z = true) (ws : List Jvm.Cond) (a1 : Addr) (p2 : Int32) (r : Int32) (h0 : Heap) (n0 : Nat) (Z0 : n0 ≤ h0.size) (E_a1 : Exa Z h0 a1 "com/example/balanza/balanza/logic/Comparison") (F_ordinal_a1 : Fld Z h0 a1 "java/lang/Enum" "ordinal" "I" (.int (1 : Int32))) (hr : own_r1 p2 r) :
    MetFree l (⟨"com/example/balanza/balanza/logic/Comparison", "holds", "(I)Z"⟩ : MethodName) (head1 (Jvm.Cond.code (⟨"com/example/balanza/balanza/logic/Comparison", "holds", "(I)Z"⟩ : MethodName) prog_49_method_5_code 3 (some .boolean) :: ws) ({ frames := 1, cells := 0, slots := 0, locals := 12 } : Room)) (fun a U => a = #[(.ref a1), (.int p2)] ∧ Z.Warmed39 U.vm ∧ U.heap = h0) (fun _ _ _ _ _ => True) (fun _ U o U' => ∃ v L, o = .returned v ∧ QR (.int r) h0 n0 v U'.heap L ∧ FrameEnd U o U' L ({ frames := 1, cells := 0, slots := 0, locals := 12 } : Room).cells ({ frames := 1, cells := 0, slots := 0, locals := 12 } : Room).slots) := by
  rcases hr with ⟨q, rfl⟩ | ⟨q, rfl⟩
  · exact rm10_1_1 l Z a0 hw ws a1 p2 h0 n0 Z0 E_a1 F_ordinal_a1 q
  · exact rm10_1_0 l Z a0 hw ws a1 p2 h0 n0 Z0 E_a1 F_ordinal_a1 q

theorem d10_70 : decode prog_49_method_5_code 70 = .ok (.iload_n 1, 1) := by decide +kernel
theorem d10_71 : decode prog_49_method_5_code 71 = .ok (.ifCond .le 7, 3) := by decide +kernel
theorem d10_74 : decode prog_49_method_5_code 74 = .ok (.iconst 1, 1) := by decide +kernel
theorem d10_75 : decode prog_49_method_5_code 75 = .ok (.goto 16, 3) := by decide +kernel
theorem os10_91_70 {s0 : Slot} {z1 : Value} {s2 : Slot} {v : Int32} (h : One s2) : storeLocals #[s0, .val z1, s2] 2 (.int v) = some #[s0, .val z1, .val (.int v)] := by
  rcases h with rfl | ⟨w, rfl, hw⟩
  · rfl
  · cases w <;> first | rfl | (simp [Value.category] at hw)
set_option maxRecDepth 65536 in
set_option maxHeartbeats 40000000 in
theorem own_h2_1 {p : Program} {l : Launch} {e : Env} {R : Room} {s : State} {m : MethodId} {args : Array Value} {below : List Frame} {meth : Method} {c : Code} {T0 : State} {locs : List Loc} {cells slots : Nat} {Z : State} {a0 : Array Value} {h0 : Heap} (s0 : Slot) (i1 : Int32) (s2 : Slot)
    (X0 : Stand p l e R s m args below meth c T0 locs cells slots) (hx : p.tables.exec = Jvm.exec) (hZ : Z.Warmed39 s.vm) (hw : ∀ d ∈ tables_1, d.before a0 Z = true) (hby : c.code = prog_49_method_5_code) (hml : c.maxLocals = 3) (hown : s.vm.findClass "com/example/balanza/balanza/logic/Comparison" = some m.cls) (e0 : T0.heap = h0) (hs2 : One s2) (hc71 : (0 : Int32) < i1) :
    ∀ target, Steps p.tables e below (T0.setTop (mkF m 92 #[s0, .val (.int i1), .val (.int (1 : Int32))] [])) target → Steps p.tables e below (T0.setTop (mkF m 70 #[s0, .val (.int i1), s2] [])) target := by

  intro target kt
  show Steps p.tables e below (T0.setTop (mkF m 70 #[s0, .val (.int i1), s2] [])) _
  refine XS.iloadN X0.here hx rfl (hb hby d10_70) rfl ?_
  show Steps p.tables e below (T0.setTop (mkF m 71 #[s0, .val (.int i1), s2] [(.int i1)])) _
  refine XS.ifNo X0.here hx rfl (hb hby d10_71) rfl ((if0 _ _).trans (tlt hc71).2.2.2) ?_
  show Steps p.tables e below (T0.setTop (mkF m 74 #[s0, .val (.int i1), s2] [])) _
  refine XS.iconst X0.here hx rfl (hb hby d10_74) ?_
  show Steps p.tables e below (T0.setTop (mkF m 75 #[s0, .val (.int i1), s2] [(.int (1 : Int32))])) _
  refine XS.goto X0.here hx rfl (pc0 := 75) (pc' := 91) rfl (hb hby d10_75) (by decide) (by decide) ?_
  show Steps p.tables e below (T0.setTop (mkF m 91 #[s0, .val (.int i1), s2] [(.int (1 : Int32))])) _
  refine XS.istoreN X0.here hx rfl (hb hby d10_91) rfl (l' := #[s0, .val (.int i1), .val (.int (1 : Int32))]) (os10_91_70 hs2) ?_
  exact kt

theorem d10_78 : decode prog_49_method_5_code 78 = .ok (.iconst 0, 1) := by decide +kernel
theorem d10_79 : decode prog_49_method_5_code 79 = .ok (.goto 12, 3) := by decide +kernel

set_option maxRecDepth 65536 in
set_option maxHeartbeats 40000000 in
theorem own_h2_0 {p : Program} {l : Launch} {e : Env} {R : Room} {s : State} {m : MethodId} {args : Array Value} {below : List Frame} {meth : Method} {c : Code} {T0 : State} {locs : List Loc} {cells slots : Nat} {Z : State} {a0 : Array Value} {h0 : Heap} (s0 : Slot) (i1 : Int32) (s2 : Slot)
    (X0 : Stand p l e R s m args below meth c T0 locs cells slots) (hx : p.tables.exec = Jvm.exec) (hZ : Z.Warmed39 s.vm) (hw : ∀ d ∈ tables_1, d.before a0 Z = true) (hby : c.code = prog_49_method_5_code) (hml : c.maxLocals = 3) (hown : s.vm.findClass "com/example/balanza/balanza/logic/Comparison" = some m.cls) (e0 : T0.heap = h0) (hs2 : One s2) (hc71 : ¬ ((0 : Int32) < i1)) :
    ∀ target, Steps p.tables e below (T0.setTop (mkF m 92 #[s0, .val (.int i1), .val (.int (0 : Int32))] [])) target → Steps p.tables e below (T0.setTop (mkF m 70 #[s0, .val (.int i1), s2] [])) target := by

  intro target kt
  show Steps p.tables e below (T0.setTop (mkF m 70 #[s0, .val (.int i1), s2] [])) _
  refine XS.iloadN X0.here hx rfl (hb hby d10_70) rfl ?_
  show Steps p.tables e below (T0.setTop (mkF m 71 #[s0, .val (.int i1), s2] [(.int i1)])) _
  refine XS.ifYes X0.here hx rfl (pc0 := 71) (pc' := 78) rfl (hb hby d10_71) rfl ((if0 _ _).trans (flt hc71).2.2.2) (by decide) (by decide) ?_
  show Steps p.tables e below (T0.setTop (mkF m 78 #[s0, .val (.int i1), s2] [])) _
  refine XS.iconst X0.here hx rfl (hb hby d10_78) ?_
  show Steps p.tables e below (T0.setTop (mkF m 79 #[s0, .val (.int i1), s2] [(.int (0 : Int32))])) _
  refine XS.goto X0.here hx rfl (pc0 := 79) (pc' := 91) rfl (hb hby d10_79) (by decide) (by decide) ?_
  show Steps p.tables e below (T0.setTop (mkF m 91 #[s0, .val (.int i1), s2] [(.int (0 : Int32))])) _
  refine XS.istoreN X0.here hx rfl (hb hby d10_91) rfl (l' := #[s0, .val (.int i1), .val (.int (0 : Int32))]) (os10_91_70 hs2) ?_
  exact kt

set_option maxRecDepth 65536 in
set_option maxHeartbeats 40000000 in
theorem rm10_2_1 (l : Launch) (Z : State) (a0 : Array Value) (hw : ∀ d ∈ tables_1, d.before a0 Z = true) (ws : List Jvm.Cond) (a1 : Addr) (p2 : Int32) (h0 : Heap) (n0 : Nat) (Z0 : n0 ≤ h0.size) (E_a1 : Exa Z h0 a1 "com/example/balanza/balanza/logic/Comparison") (F_ordinal_a1 : Fld Z h0 a1 "java/lang/Enum" "ordinal" "I" (.int (2 : Int32))) (hc : (0 : Int32) < p2) :
    MetFree l (⟨"com/example/balanza/balanza/logic/Comparison", "holds", "(I)Z"⟩ : MethodName) (head1 (Jvm.Cond.code (⟨"com/example/balanza/balanza/logic/Comparison", "holds", "(I)Z"⟩ : MethodName) prog_49_method_5_code 3 (some .boolean) :: ws) ({ frames := 1, cells := 0, slots := 0, locals := 12 } : Room)) (fun a U => a = #[(.ref a1), (.int p2)] ∧ Z.Warmed39 U.vm ∧ U.heap = h0) (fun _ _ _ _ _ => True) (fun _ U o U' => ∃ v L, o = .returned v ∧ QR (.int (1 : Int32)) h0 n0 v U'.heap L ∧ FrameEnd U o U' L ({ frames := 1, cells := 0, slots := 0, locals := 12 } : Room).cells ({ frames := 1, cells := 0, slots := 0, locals := 12 } : Room).slots) := by
  refine MetFree.of_bodySF (plainFor_of_name pn_10) hisR ?_
  intro p e s m args below meth c s₁ Bd hml0 hP hK
  obtain ⟨rfl, hZ, hh⟩ := hP
  have hx := Bd.exec
  have hby := Bd.bytes
  have hml : c.maxLocals = 3 := hml0
  have hown : s.vm.findClass "com/example/balanza/balanza/logic/Comparison" = some m.cls := findClass_of_methodNamed Bd.named
  have hnm := (name_of_methodNamed Bd.named Bd.method).1
  have X0 : Stand p l e ({ frames := 1, cells := 0, slots := 0, locals := 12 } : Room) s m #[(.ref a1), (.int p2)] below meth c s₁ [] 0 0 := Stand.of_body Bd
  have e0 : s₁.heap = h0 := by rw [← hh, Bd.state]; rfl
  have N0 := Fr.nil n0
  have pre0 : ∀ t, Steps p.tables e below (s₁.setTop (mkF m 0 #[.val (.ref a1), .val (.int p2), .unset] [])) t → Steps p.tables e below (s₁.setTop (entryFrame m #[(.ref a1), (.int p2)] 3)) t := fun t k => castTop (ef_10 m a1 p2) k
  obtain ⟨cq3, kq3, q3a, q3b, q3c⟩ := isOf hZ e0 E_a1
  obtain ⟨_, _, ⟨T3, L3, k3, n3⟩, -, X3, ⟨Lc3, hQ3, l3, y3, z3⟩, st3⟩ := X0.virtualBackUp hx (x := (⟨"com/example/balanza/balanza/logic/Comparison", "ordinal", "()I"⟩ : MethodName)) (y := (⟨"java/lang/Enum", "ordinal", "()I"⟩ : MethodName)) (owner := "java/lang/Enum") hown (mvT hZ (hw _ (List.mem_of_getElem? (i := 67) rfl))) (mvT hZ (hw _ (List.mem_of_getElem? (i := 68) rfl))) (mvT hZ (hw _ (List.mem_of_getElem? (i := 69) rfl))) (by decide) (mvT hZ (hw _ (List.mem_of_getElem? (i := 71) rfl))) (mvT hZ (hw _ (List.mem_of_getElem? (i := 70) rfl))) (backOf (W := 0) (rm11 l Z a0 hw [] a1 (2 : Int32) h0 n0 Z0 F_ordinal_a1) hZ (hw _ (List.mem_of_getElem? (i := 73) rfl)) (hw _ (List.mem_of_getElem? (i := 72) rfl)) (by decide) (by decide)) q3a q3c (g := (mkF m 1 #[.val (.ref a1), .val (.int p2), .unset] [(.ref a1)])) rfl (by rw [hml]; rfl) (Steps.refl _) (argsL := []) (rest := []) (lenOf pd_10_6 rfl) rfl (by show 2 * 0 + _ ≤ _; exact Nat.le_of_eq rfl) (hb hby d10_1) (fun _ _ => ⟨rfl, e0, (by decide : 0 + 0 ≤ _), (by decide : 0 + 0 ≤ _)⟩)
  dsimp only [Pt.U, Pt.locs, Pt.cells, Pt.slots] at X3 l3 y3 z3 st3 hQ3
  subst l3 y3 z3
  obtain ⟨rfl, N3q, e3⟩ := hQ3
  have N3 := Fr.app N0 N3q

  obtain ⟨fs, hr, hrun, hended, hW, hsame⟩ := X3.leave (v := some (.int (1 : Int32))) (fun h => by rw [Bd.returns] at h; cases h)
  refine ⟨_, _, pre0 _ ?_, hrun, hended, _, _, rfl, ?_, ⟨_, rfl⟩, hW, hsame.mono (by decide) (by decide)⟩
  · show Steps p.tables e below (s₁.setTop (mkF m 0 #[.val (.ref a1), .val (.int p2), .unset] [])) _
    refine XS.aloadN X0.here hx rfl (hb hby d10_0) rfl rfl ?_
    show Steps p.tables e below (s₁.setTop (mkF m 1 #[.val (.ref a1), .val (.int p2), .unset] [(.ref a1)])) _
    refine st3.trans ?_
    show Steps p.tables e below (T3.setTop (mkF m 4 #[.val (.ref a1), .val (.int p2), .unset] [(.int (2 : Int32))])) _
    refine X3.tableswitchIn hx (g := (mkF m 4 #[.val (.ref a1), .val (.int p2), .unset] [(.int (2 : Int32))])) rfl rfl (hb hby d10_4) (by decide) (off := 66) rfl (by show (0 : Int) ≤ ((4 : Nat) : Int) + 66; decide) _ ?_
    show Steps p.tables e below (T3.setTop (mkF m 70 #[.val (.ref a1), .val (.int p2), .unset] [])) _
    refine own_h2_1 _ _ _ X3 hx hZ hw hby hml hown rfl One.u hc _ ?_
    show Steps p.tables e below (T3.setTop (mkF m 92 #[.val (.ref a1), .val (.int p2), .val (.int (1 : Int32))] [])) _
    refine XS.iloadN X3.here hx rfl (hb hby d10_92) rfl ?_
    show Steps p.tables e below (T3.setTop (mkF m 93 #[.val (.ref a1), .val (.int p2), .val (.int (1 : Int32))] [(.int (1 : Int32))])) _
    exact retN X3 hx (t := .boolean) Bd.returns (by simp) (hb hby d10_93) hr
  · show QR (.int (1 : Int32)) h0 n0 _ T3.heap _
    exact ⟨rfl, N3, e3⟩

set_option maxRecDepth 65536 in
set_option maxHeartbeats 40000000 in
theorem rm10_2_0 (l : Launch) (Z : State) (a0 : Array Value) (hw : ∀ d ∈ tables_1, d.before a0 Z = true) (ws : List Jvm.Cond) (a1 : Addr) (p2 : Int32) (h0 : Heap) (n0 : Nat) (Z0 : n0 ≤ h0.size) (E_a1 : Exa Z h0 a1 "com/example/balanza/balanza/logic/Comparison") (F_ordinal_a1 : Fld Z h0 a1 "java/lang/Enum" "ordinal" "I" (.int (2 : Int32))) (hc : ¬ ((0 : Int32) < p2)) :
    MetFree l (⟨"com/example/balanza/balanza/logic/Comparison", "holds", "(I)Z"⟩ : MethodName) (head1 (Jvm.Cond.code (⟨"com/example/balanza/balanza/logic/Comparison", "holds", "(I)Z"⟩ : MethodName) prog_49_method_5_code 3 (some .boolean) :: ws) ({ frames := 1, cells := 0, slots := 0, locals := 12 } : Room)) (fun a U => a = #[(.ref a1), (.int p2)] ∧ Z.Warmed39 U.vm ∧ U.heap = h0) (fun _ _ _ _ _ => True) (fun _ U o U' => ∃ v L, o = .returned v ∧ QR (.int (0 : Int32)) h0 n0 v U'.heap L ∧ FrameEnd U o U' L ({ frames := 1, cells := 0, slots := 0, locals := 12 } : Room).cells ({ frames := 1, cells := 0, slots := 0, locals := 12 } : Room).slots) := by
  refine MetFree.of_bodySF (plainFor_of_name pn_10) hisR ?_
  intro p e s m args below meth c s₁ Bd hml0 hP hK
  obtain ⟨rfl, hZ, hh⟩ := hP
  have hx := Bd.exec
  have hby := Bd.bytes
  have hml : c.maxLocals = 3 := hml0
  have hown : s.vm.findClass "com/example/balanza/balanza/logic/Comparison" = some m.cls := findClass_of_methodNamed Bd.named
  have hnm := (name_of_methodNamed Bd.named Bd.method).1
  have X0 : Stand p l e ({ frames := 1, cells := 0, slots := 0, locals := 12 } : Room) s m #[(.ref a1), (.int p2)] below meth c s₁ [] 0 0 := Stand.of_body Bd
  have e0 : s₁.heap = h0 := by rw [← hh, Bd.state]; rfl
  have N0 := Fr.nil n0
  have pre0 : ∀ t, Steps p.tables e below (s₁.setTop (mkF m 0 #[.val (.ref a1), .val (.int p2), .unset] [])) t → Steps p.tables e below (s₁.setTop (entryFrame m #[(.ref a1), (.int p2)] 3)) t := fun t k => castTop (ef_10 m a1 p2) k
  obtain ⟨cq3, kq3, q3a, q3b, q3c⟩ := isOf hZ e0 E_a1
  obtain ⟨_, _, ⟨T3, L3, k3, n3⟩, -, X3, ⟨Lc3, hQ3, l3, y3, z3⟩, st3⟩ := X0.virtualBackUp hx (x := (⟨"com/example/balanza/balanza/logic/Comparison", "ordinal", "()I"⟩ : MethodName)) (y := (⟨"java/lang/Enum", "ordinal", "()I"⟩ : MethodName)) (owner := "java/lang/Enum") hown (mvT hZ (hw _ (List.mem_of_getElem? (i := 67) rfl))) (mvT hZ (hw _ (List.mem_of_getElem? (i := 68) rfl))) (mvT hZ (hw _ (List.mem_of_getElem? (i := 69) rfl))) (by decide) (mvT hZ (hw _ (List.mem_of_getElem? (i := 71) rfl))) (mvT hZ (hw _ (List.mem_of_getElem? (i := 70) rfl))) (backOf (W := 0) (rm11 l Z a0 hw [] a1 (2 : Int32) h0 n0 Z0 F_ordinal_a1) hZ (hw _ (List.mem_of_getElem? (i := 73) rfl)) (hw _ (List.mem_of_getElem? (i := 72) rfl)) (by decide) (by decide)) q3a q3c (g := (mkF m 1 #[.val (.ref a1), .val (.int p2), .unset] [(.ref a1)])) rfl (by rw [hml]; rfl) (Steps.refl _) (argsL := []) (rest := []) (lenOf pd_10_6 rfl) rfl (by show 2 * 0 + _ ≤ _; exact Nat.le_of_eq rfl) (hb hby d10_1) (fun _ _ => ⟨rfl, e0, (by decide : 0 + 0 ≤ _), (by decide : 0 + 0 ≤ _)⟩)
  dsimp only [Pt.U, Pt.locs, Pt.cells, Pt.slots] at X3 l3 y3 z3 st3 hQ3
  subst l3 y3 z3
  obtain ⟨rfl, N3q, e3⟩ := hQ3
  have N3 := Fr.app N0 N3q

  obtain ⟨fs, hr, hrun, hended, hW, hsame⟩ := X3.leave (v := some (.int (0 : Int32))) (fun h => by rw [Bd.returns] at h; cases h)
  refine ⟨_, _, pre0 _ ?_, hrun, hended, _, _, rfl, ?_, ⟨_, rfl⟩, hW, hsame.mono (by decide) (by decide)⟩
  · show Steps p.tables e below (s₁.setTop (mkF m 0 #[.val (.ref a1), .val (.int p2), .unset] [])) _
    refine XS.aloadN X0.here hx rfl (hb hby d10_0) rfl rfl ?_
    show Steps p.tables e below (s₁.setTop (mkF m 1 #[.val (.ref a1), .val (.int p2), .unset] [(.ref a1)])) _
    refine st3.trans ?_
    show Steps p.tables e below (T3.setTop (mkF m 4 #[.val (.ref a1), .val (.int p2), .unset] [(.int (2 : Int32))])) _
    refine X3.tableswitchIn hx (g := (mkF m 4 #[.val (.ref a1), .val (.int p2), .unset] [(.int (2 : Int32))])) rfl rfl (hb hby d10_4) (by decide) (off := 66) rfl (by show (0 : Int) ≤ ((4 : Nat) : Int) + 66; decide) _ ?_
    show Steps p.tables e below (T3.setTop (mkF m 70 #[.val (.ref a1), .val (.int p2), .unset] [])) _
    refine own_h2_0 _ _ _ X3 hx hZ hw hby hml hown rfl One.u hc _ ?_
    show Steps p.tables e below (T3.setTop (mkF m 92 #[.val (.ref a1), .val (.int p2), .val (.int (0 : Int32))] [])) _
    refine XS.iloadN X3.here hx rfl (hb hby d10_92) rfl ?_
    show Steps p.tables e below (T3.setTop (mkF m 93 #[.val (.ref a1), .val (.int p2), .val (.int (0 : Int32))] [(.int (0 : Int32))])) _
    exact retN X3 hx (t := .boolean) Bd.returns (by simp) (hb hby d10_93) hr
  · show QR (.int (0 : Int32)) h0 n0 _ T3.heap _
    exact ⟨rfl, N3, e3⟩

theorem rm10_2 (l : Launch) (Z : State) (a0 : Array Value) (hw : ∀ d ∈ tables_1, d.before a0 Z = true) (ws : List Jvm.Cond) (a1 : Addr) (p2 : Int32) (r : Int32) (h0 : Heap) (n0 : Nat) (Z0 : n0 ≤ h0.size) (E_a1 : Exa Z h0 a1 "com/example/balanza/balanza/logic/Comparison") (F_ordinal_a1 : Fld Z h0 a1 "java/lang/Enum" "ordinal" "I" (.int (2 : Int32))) (hr : own_r2 p2 r) :
    MetFree l (⟨"com/example/balanza/balanza/logic/Comparison", "holds", "(I)Z"⟩ : MethodName) (head1 (Jvm.Cond.code (⟨"com/example/balanza/balanza/logic/Comparison", "holds", "(I)Z"⟩ : MethodName) prog_49_method_5_code 3 (some .boolean) :: ws) ({ frames := 1, cells := 0, slots := 0, locals := 12 } : Room)) (fun a U => a = #[(.ref a1), (.int p2)] ∧ Z.Warmed39 U.vm ∧ U.heap = h0) (fun _ _ _ _ _ => True) (fun _ U o U' => ∃ v L, o = .returned v ∧ QR (.int r) h0 n0 v U'.heap L ∧ FrameEnd U o U' L ({ frames := 1, cells := 0, slots := 0, locals := 12 } : Room).cells ({ frames := 1, cells := 0, slots := 0, locals := 12 } : Room).slots) := by
  rcases hr with ⟨q, rfl⟩ | ⟨q, rfl⟩
  · exact rm10_2_1 l Z a0 hw ws a1 p2 h0 n0 Z0 E_a1 F_ordinal_a1 q
  · exact rm10_2_0 l Z a0 hw ws a1 p2 h0 n0 Z0 E_a1 F_ordinal_a1 q

theorem d10_82 : decode prog_49_method_5_code 82 = .ok (.iload_n 1, 1) := by decide +kernel
theorem d10_83 : decode prog_49_method_5_code 83 = .ok (.ifCond .lt 7, 3) := by decide +kernel
theorem d10_86 : decode prog_49_method_5_code 86 = .ok (.iconst 1, 1) := by decide +kernel
theorem d10_87 : decode prog_49_method_5_code 87 = .ok (.goto 4, 3) := by decide +kernel
theorem os10_91_82 {s0 : Slot} {z1 : Value} {s2 : Slot} {v : Int32} (h : One s2) : storeLocals #[s0, .val z1, s2] 2 (.int v) = some #[s0, .val z1, .val (.int v)] := by
  rcases h with rfl | ⟨w, rfl, hw⟩
  · rfl
  · cases w <;> first | rfl | (simp [Value.category] at hw)
set_option maxRecDepth 65536 in
set_option maxHeartbeats 40000000 in
theorem own_h3_1 {p : Program} {l : Launch} {e : Env} {R : Room} {s : State} {m : MethodId} {args : Array Value} {below : List Frame} {meth : Method} {c : Code} {T0 : State} {locs : List Loc} {cells slots : Nat} {Z : State} {a0 : Array Value} {h0 : Heap} (s0 : Slot) (i1 : Int32) (s2 : Slot)
    (X0 : Stand p l e R s m args below meth c T0 locs cells slots) (hx : p.tables.exec = Jvm.exec) (hZ : Z.Warmed39 s.vm) (hw : ∀ d ∈ tables_1, d.before a0 Z = true) (hby : c.code = prog_49_method_5_code) (hml : c.maxLocals = 3) (hown : s.vm.findClass "com/example/balanza/balanza/logic/Comparison" = some m.cls) (e0 : T0.heap = h0) (hs2 : One s2) (hc83 : ¬ (i1 < (0 : Int32))) :
    ∀ target, Steps p.tables e below (T0.setTop (mkF m 92 #[s0, .val (.int i1), .val (.int (1 : Int32))] [])) target → Steps p.tables e below (T0.setTop (mkF m 82 #[s0, .val (.int i1), s2] [])) target := by

  intro target kt
  show Steps p.tables e below (T0.setTop (mkF m 82 #[s0, .val (.int i1), s2] [])) _
  refine XS.iloadN X0.here hx rfl (hb hby d10_82) rfl ?_
  show Steps p.tables e below (T0.setTop (mkF m 83 #[s0, .val (.int i1), s2] [(.int i1)])) _
  refine XS.ifNo X0.here hx rfl (hb hby d10_83) rfl ((if0 _ _).trans (flt hc83).1) ?_
  show Steps p.tables e below (T0.setTop (mkF m 86 #[s0, .val (.int i1), s2] [])) _
  refine XS.iconst X0.here hx rfl (hb hby d10_86) ?_
  show Steps p.tables e below (T0.setTop (mkF m 87 #[s0, .val (.int i1), s2] [(.int (1 : Int32))])) _
  refine XS.goto X0.here hx rfl (pc0 := 87) (pc' := 91) rfl (hb hby d10_87) (by decide) (by decide) ?_
  show Steps p.tables e below (T0.setTop (mkF m 91 #[s0, .val (.int i1), s2] [(.int (1 : Int32))])) _
  refine XS.istoreN X0.here hx rfl (hb hby d10_91) rfl (l' := #[s0, .val (.int i1), .val (.int (1 : Int32))]) (os10_91_82 hs2) ?_
  exact kt

theorem d10_90 : decode prog_49_method_5_code 90 = .ok (.iconst 0, 1) := by decide +kernel

set_option maxRecDepth 65536 in
set_option maxHeartbeats 40000000 in
theorem own_h3_0 {p : Program} {l : Launch} {e : Env} {R : Room} {s : State} {m : MethodId} {args : Array Value} {below : List Frame} {meth : Method} {c : Code} {T0 : State} {locs : List Loc} {cells slots : Nat} {Z : State} {a0 : Array Value} {h0 : Heap} (s0 : Slot) (i1 : Int32) (s2 : Slot)
    (X0 : Stand p l e R s m args below meth c T0 locs cells slots) (hx : p.tables.exec = Jvm.exec) (hZ : Z.Warmed39 s.vm) (hw : ∀ d ∈ tables_1, d.before a0 Z = true) (hby : c.code = prog_49_method_5_code) (hml : c.maxLocals = 3) (hown : s.vm.findClass "com/example/balanza/balanza/logic/Comparison" = some m.cls) (e0 : T0.heap = h0) (hs2 : One s2) (hc83 : i1 < (0 : Int32)) :
    ∀ target, Steps p.tables e below (T0.setTop (mkF m 92 #[s0, .val (.int i1), .val (.int (0 : Int32))] [])) target → Steps p.tables e below (T0.setTop (mkF m 82 #[s0, .val (.int i1), s2] [])) target := by

  intro target kt
  show Steps p.tables e below (T0.setTop (mkF m 82 #[s0, .val (.int i1), s2] [])) _
  refine XS.iloadN X0.here hx rfl (hb hby d10_82) rfl ?_
  show Steps p.tables e below (T0.setTop (mkF m 83 #[s0, .val (.int i1), s2] [(.int i1)])) _
  refine XS.ifYes X0.here hx rfl (pc0 := 83) (pc' := 90) rfl (hb hby d10_83) rfl ((if0 _ _).trans (tlt hc83).1) (by decide) (by decide) ?_
  show Steps p.tables e below (T0.setTop (mkF m 90 #[s0, .val (.int i1), s2] [])) _
  refine XS.iconst X0.here hx rfl (hb hby d10_90) ?_
  show Steps p.tables e below (T0.setTop (mkF m 91 #[s0, .val (.int i1), s2] [(.int (0 : Int32))])) _
  refine XS.istoreN X0.here hx rfl (hb hby d10_91) rfl (l' := #[s0, .val (.int i1), .val (.int (0 : Int32))]) (os10_91_82 hs2) ?_
  exact kt

set_option maxRecDepth 65536 in
set_option maxHeartbeats 40000000 in
theorem rm10_3_1 (l : Launch) (Z : State) (a0 : Array Value) (hw : ∀ d ∈ tables_1, d.before a0 Z = true) (ws : List Jvm.Cond) (a1 : Addr) (p2 : Int32) (h0 : Heap) (n0 : Nat) (Z0 : n0 ≤ h0.size) (E_a1 : Exa Z h0 a1 "com/example/balanza/balanza/logic/Comparison") (F_ordinal_a1 : Fld Z h0 a1 "java/lang/Enum" "ordinal" "I" (.int (3 : Int32))) (hc : ¬ (p2 < (0 : Int32))) :
    MetFree l (⟨"com/example/balanza/balanza/logic/Comparison", "holds", "(I)Z"⟩ : MethodName) (head1 (Jvm.Cond.code (⟨"com/example/balanza/balanza/logic/Comparison", "holds", "(I)Z"⟩ : MethodName) prog_49_method_5_code 3 (some .boolean) :: ws) ({ frames := 1, cells := 0, slots := 0, locals := 12 } : Room)) (fun a U => a = #[(.ref a1), (.int p2)] ∧ Z.Warmed39 U.vm ∧ U.heap = h0) (fun _ _ _ _ _ => True) (fun _ U o U' => ∃ v L, o = .returned v ∧ QR (.int (1 : Int32)) h0 n0 v U'.heap L ∧ FrameEnd U o U' L ({ frames := 1, cells := 0, slots := 0, locals := 12 } : Room).cells ({ frames := 1, cells := 0, slots := 0, locals := 12 } : Room).slots) := by
  refine MetFree.of_bodySF (plainFor_of_name pn_10) hisR ?_
  intro p e s m args below meth c s₁ Bd hml0 hP hK
  obtain ⟨rfl, hZ, hh⟩ := hP
  have hx := Bd.exec
  have hby := Bd.bytes
  have hml : c.maxLocals = 3 := hml0
  have hown : s.vm.findClass "com/example/balanza/balanza/logic/Comparison" = some m.cls := findClass_of_methodNamed Bd.named
  have hnm := (name_of_methodNamed Bd.named Bd.method).1
  have X0 : Stand p l e ({ frames := 1, cells := 0, slots := 0, locals := 12 } : Room) s m #[(.ref a1), (.int p2)] below meth c s₁ [] 0 0 := Stand.of_body Bd
  have e0 : s₁.heap = h0 := by rw [← hh, Bd.state]; rfl
  have N0 := Fr.nil n0
  have pre0 : ∀ t, Steps p.tables e below (s₁.setTop (mkF m 0 #[.val (.ref a1), .val (.int p2), .unset] [])) t → Steps p.tables e below (s₁.setTop (entryFrame m #[(.ref a1), (.int p2)] 3)) t := fun t k => castTop (ef_10 m a1 p2) k
  obtain ⟨cq3, kq3, q3a, q3b, q3c⟩ := isOf hZ e0 E_a1
  obtain ⟨_, _, ⟨T3, L3, k3, n3⟩, -, X3, ⟨Lc3, hQ3, l3, y3, z3⟩, st3⟩ := X0.virtualBackUp hx (x := (⟨"com/example/balanza/balanza/logic/Comparison", "ordinal", "()I"⟩ : MethodName)) (y := (⟨"java/lang/Enum", "ordinal", "()I"⟩ : MethodName)) (owner := "java/lang/Enum") hown (mvT hZ (hw _ (List.mem_of_getElem? (i := 67) rfl))) (mvT hZ (hw _ (List.mem_of_getElem? (i := 68) rfl))) (mvT hZ (hw _ (List.mem_of_getElem? (i := 69) rfl))) (by decide) (mvT hZ (hw _ (List.mem_of_getElem? (i := 71) rfl))) (mvT hZ (hw _ (List.mem_of_getElem? (i := 70) rfl))) (backOf (W := 0) (rm11 l Z a0 hw [] a1 (3 : Int32) h0 n0 Z0 F_ordinal_a1) hZ (hw _ (List.mem_of_getElem? (i := 73) rfl)) (hw _ (List.mem_of_getElem? (i := 72) rfl)) (by decide) (by decide)) q3a q3c (g := (mkF m 1 #[.val (.ref a1), .val (.int p2), .unset] [(.ref a1)])) rfl (by rw [hml]; rfl) (Steps.refl _) (argsL := []) (rest := []) (lenOf pd_10_6 rfl) rfl (by show 2 * 0 + _ ≤ _; exact Nat.le_of_eq rfl) (hb hby d10_1) (fun _ _ => ⟨rfl, e0, (by decide : 0 + 0 ≤ _), (by decide : 0 + 0 ≤ _)⟩)
  dsimp only [Pt.U, Pt.locs, Pt.cells, Pt.slots] at X3 l3 y3 z3 st3 hQ3
  subst l3 y3 z3
  obtain ⟨rfl, N3q, e3⟩ := hQ3
  have N3 := Fr.app N0 N3q

  obtain ⟨fs, hr, hrun, hended, hW, hsame⟩ := X3.leave (v := some (.int (1 : Int32))) (fun h => by rw [Bd.returns] at h; cases h)
  refine ⟨_, _, pre0 _ ?_, hrun, hended, _, _, rfl, ?_, ⟨_, rfl⟩, hW, hsame.mono (by decide) (by decide)⟩
  · show Steps p.tables e below (s₁.setTop (mkF m 0 #[.val (.ref a1), .val (.int p2), .unset] [])) _
    refine XS.aloadN X0.here hx rfl (hb hby d10_0) rfl rfl ?_
    show Steps p.tables e below (s₁.setTop (mkF m 1 #[.val (.ref a1), .val (.int p2), .unset] [(.ref a1)])) _
    refine st3.trans ?_
    show Steps p.tables e below (T3.setTop (mkF m 4 #[.val (.ref a1), .val (.int p2), .unset] [(.int (3 : Int32))])) _
    refine X3.tableswitchIn hx (g := (mkF m 4 #[.val (.ref a1), .val (.int p2), .unset] [(.int (3 : Int32))])) rfl rfl (hb hby d10_4) (by decide) (off := 78) rfl (by show (0 : Int) ≤ ((4 : Nat) : Int) + 78; decide) _ ?_
    show Steps p.tables e below (T3.setTop (mkF m 82 #[.val (.ref a1), .val (.int p2), .unset] [])) _
    refine own_h3_1 _ _ _ X3 hx hZ hw hby hml hown rfl One.u hc _ ?_
    show Steps p.tables e below (T3.setTop (mkF m 92 #[.val (.ref a1), .val (.int p2), .val (.int (1 : Int32))] [])) _
    refine XS.iloadN X3.here hx rfl (hb hby d10_92) rfl ?_
    show Steps p.tables e below (T3.setTop (mkF m 93 #[.val (.ref a1), .val (.int p2), .val (.int (1 : Int32))] [(.int (1 : Int32))])) _
    exact retN X3 hx (t := .boolean) Bd.returns (by simp) (hb hby d10_93) hr
  · show QR (.int (1 : Int32)) h0 n0 _ T3.heap _
    exact ⟨rfl, N3, e3⟩

set_option maxRecDepth 65536 in
set_option maxHeartbeats 40000000 in
theorem rm10_3_0 (l : Launch) (Z : State) (a0 : Array Value) (hw : ∀ d ∈ tables_1, d.before a0 Z = true) (ws : List Jvm.Cond) (a1 : Addr) (p2 : Int32) (h0 : Heap) (n0 : Nat) (Z0 : n0 ≤ h0.size) (E_a1 : Exa Z h0 a1 "com/example/balanza/balanza/logic/Comparison") (F_ordinal_a1 : Fld Z h0 a1 "java/lang/Enum" "ordinal" "I" (.int (3 : Int32))) (hc : p2 < (0 : Int32)) :
    MetFree l (⟨"com/example/balanza/balanza/logic/Comparison", "holds", "(I)Z"⟩ : MethodName) (head1 (Jvm.Cond.code (⟨"com/example/balanza/balanza/logic/Comparison", "holds", "(I)Z"⟩ : MethodName) prog_49_method_5_code 3 (some .boolean) :: ws) ({ frames := 1, cells := 0, slots := 0, locals := 12 } : Room)) (fun a U => a = #[(.ref a1), (.int p2)] ∧ Z.Warmed39 U.vm ∧ U.heap = h0) (fun _ _ _ _ _ => True) (fun _ U o U' => ∃ v L, o = .returned v ∧ QR (.int (0 : Int32)) h0 n0 v U'.heap L ∧ FrameEnd U o U' L ({ frames := 1, cells := 0, slots := 0, locals := 12 } : Room).cells ({ frames := 1, cells := 0, slots := 0, locals := 12 } : Room).slots) := by
  refine MetFree.of_bodySF (plainFor_of_name pn_10) hisR ?_
  intro p e s m args below meth c s₁ Bd hml0 hP hK
  obtain ⟨rfl, hZ, hh⟩ := hP
  have hx := Bd.exec
  have hby := Bd.bytes
  have hml : c.maxLocals = 3 := hml0
  have hown : s.vm.findClass "com/example/balanza/balanza/logic/Comparison" = some m.cls := findClass_of_methodNamed Bd.named
  have hnm := (name_of_methodNamed Bd.named Bd.method).1
  have X0 : Stand p l e ({ frames := 1, cells := 0, slots := 0, locals := 12 } : Room) s m #[(.ref a1), (.int p2)] below meth c s₁ [] 0 0 := Stand.of_body Bd
  have e0 : s₁.heap = h0 := by rw [← hh, Bd.state]; rfl
  have N0 := Fr.nil n0
  have pre0 : ∀ t, Steps p.tables e below (s₁.setTop (mkF m 0 #[.val (.ref a1), .val (.int p2), .unset] [])) t → Steps p.tables e below (s₁.setTop (entryFrame m #[(.ref a1), (.int p2)] 3)) t := fun t k => castTop (ef_10 m a1 p2) k
  obtain ⟨cq3, kq3, q3a, q3b, q3c⟩ := isOf hZ e0 E_a1
  obtain ⟨_, _, ⟨T3, L3, k3, n3⟩, -, X3, ⟨Lc3, hQ3, l3, y3, z3⟩, st3⟩ := X0.virtualBackUp hx (x := (⟨"com/example/balanza/balanza/logic/Comparison", "ordinal", "()I"⟩ : MethodName)) (y := (⟨"java/lang/Enum", "ordinal", "()I"⟩ : MethodName)) (owner := "java/lang/Enum") hown (mvT hZ (hw _ (List.mem_of_getElem? (i := 67) rfl))) (mvT hZ (hw _ (List.mem_of_getElem? (i := 68) rfl))) (mvT hZ (hw _ (List.mem_of_getElem? (i := 69) rfl))) (by decide) (mvT hZ (hw _ (List.mem_of_getElem? (i := 71) rfl))) (mvT hZ (hw _ (List.mem_of_getElem? (i := 70) rfl))) (backOf (W := 0) (rm11 l Z a0 hw [] a1 (3 : Int32) h0 n0 Z0 F_ordinal_a1) hZ (hw _ (List.mem_of_getElem? (i := 73) rfl)) (hw _ (List.mem_of_getElem? (i := 72) rfl)) (by decide) (by decide)) q3a q3c (g := (mkF m 1 #[.val (.ref a1), .val (.int p2), .unset] [(.ref a1)])) rfl (by rw [hml]; rfl) (Steps.refl _) (argsL := []) (rest := []) (lenOf pd_10_6 rfl) rfl (by show 2 * 0 + _ ≤ _; exact Nat.le_of_eq rfl) (hb hby d10_1) (fun _ _ => ⟨rfl, e0, (by decide : 0 + 0 ≤ _), (by decide : 0 + 0 ≤ _)⟩)
  dsimp only [Pt.U, Pt.locs, Pt.cells, Pt.slots] at X3 l3 y3 z3 st3 hQ3
  subst l3 y3 z3
  obtain ⟨rfl, N3q, e3⟩ := hQ3
  have N3 := Fr.app N0 N3q

  obtain ⟨fs, hr, hrun, hended, hW, hsame⟩ := X3.leave (v := some (.int (0 : Int32))) (fun h => by rw [Bd.returns] at h; cases h)
  refine ⟨_, _, pre0 _ ?_, hrun, hended, _, _, rfl, ?_, ⟨_, rfl⟩, hW, hsame.mono (by decide) (by decide)⟩
  · show Steps p.tables e below (s₁.setTop (mkF m 0 #[.val (.ref a1), .val (.int p2), .unset] [])) _
    refine XS.aloadN X0.here hx rfl (hb hby d10_0) rfl rfl ?_
    show Steps p.tables e below (s₁.setTop (mkF m 1 #[.val (.ref a1), .val (.int p2), .unset] [(.ref a1)])) _
    refine st3.trans ?_
    show Steps p.tables e below (T3.setTop (mkF m 4 #[.val (.ref a1), .val (.int p2), .unset] [(.int (3 : Int32))])) _
    refine X3.tableswitchIn hx (g := (mkF m 4 #[.val (.ref a1), .val (.int p2), .unset] [(.int (3 : Int32))])) rfl rfl (hb hby d10_4) (by decide) (off := 78) rfl (by show (0 : Int) ≤ ((4 : Nat) : Int) + 78; decide) _ ?_
    show Steps p.tables e below (T3.setTop (mkF m 82 #[.val (.ref a1), .val (.int p2), .unset] [])) _
    refine own_h3_0 _ _ _ X3 hx hZ hw hby hml hown rfl One.u hc _ ?_
    show Steps p.tables e below (T3.setTop (mkF m 92 #[.val (.ref a1), .val (.int p2), .val (.int (0 : Int32))] [])) _
    refine XS.iloadN X3.here hx rfl (hb hby d10_92) rfl ?_
    show Steps p.tables e below (T3.setTop (mkF m 93 #[.val (.ref a1), .val (.int p2), .val (.int (0 : Int32))] [(.int (0 : Int32))])) _
    exact retN X3 hx (t := .boolean) Bd.returns (by simp) (hb hby d10_93) hr
  · show QR (.int (0 : Int32)) h0 n0 _ T3.heap _
    exact ⟨rfl, N3, e3⟩

theorem rm10_3 (l : Launch) (Z : State) (a0 : Array Value) (hw : ∀ d ∈ tables_1, d.before a0 Z = true) (ws : List Jvm.Cond) (a1 : Addr) (p2 : Int32) (r : Int32) (h0 : Heap) (n0 : Nat) (Z0 : n0 ≤ h0.size) (E_a1 : Exa Z h0 a1 "com/example/balanza/balanza/logic/Comparison") (F_ordinal_a1 : Fld Z h0 a1 "java/lang/Enum" "ordinal" "I" (.int (3 : Int32))) (hr : own_r3 p2 r) :
    MetFree l (⟨"com/example/balanza/balanza/logic/Comparison", "holds", "(I)Z"⟩ : MethodName) (head1 (Jvm.Cond.code (⟨"com/example/balanza/balanza/logic/Comparison", "holds", "(I)Z"⟩ : MethodName) prog_49_method_5_code 3 (some .boolean) :: ws) ({ frames := 1, cells := 0, slots := 0, locals := 12 } : Room)) (fun a U => a = #[(.ref a1), (.int p2)] ∧ Z.Warmed39 U.vm ∧ U.heap = h0) (fun _ _ _ _ _ => True) (fun _ U o U' => ∃ v L, o = .returned v ∧ QR (.int r) h0 n0 v U'.heap L ∧ FrameEnd U o U' L ({ frames := 1, cells := 0, slots := 0, locals := 12 } : Room).cells ({ frames := 1, cells := 0, slots := 0, locals := 12 } : Room).slots) := by
  rcases hr with ⟨q, rfl⟩ | ⟨q, rfl⟩
  · exact rm10_3_1 l Z a0 hw ws a1 p2 h0 n0 Z0 E_a1 F_ordinal_a1 q
  · exact rm10_3_0 l Z a0 hw ws a1 p2 h0 n0 Z0 E_a1 F_ordinal_a1 q

theorem os0_52_35 {z0 : Value} {z1 : Value} {s2 : Slot} {s3 : Slot} {s4 : Slot} {s5 : Slot} {s6 : Slot} {s7 : Slot} {s8 : Slot} {s9 : Slot} {v : Int32} (h : One s4) : storeLocals #[.val z0, .val z1, s2, s3, s4, s5, s6, s7, s8, s9] 4 (.int v) = some #[.val z0, .val z1, s2, s3, .val (.int v), s5, s6, s7, s8, s9] := by
  rcases h with rfl | ⟨w, rfl, hw⟩
  · rfl
  · cases w <;> first | rfl | (simp [Value.category] at hw)
set_option maxRecDepth 65536 in
set_option maxHeartbeats 40000000 in
theorem own_pBa {p : Program} {l : Launch} {e : Env} {R : Room} {s : State} {m : MethodId} {args : Array Value} {below : List Frame} {meth : Method} {c : Code} {T0 : State} {locs : List Loc} {cells slots : Nat} {Z : State} {a0 : Array Value} {h0 : Heap} (i0 : Int32) (i1 : Int32) (s2 : Slot) (s3 : Slot) (s4 : Slot) (s5 : Slot) (s6 : Slot) (s7 : Slot) (s8 : Slot) (s9 : Slot)
    (X0 : Stand p l e R s m args below meth c T0 locs cells slots) (hx : p.tables.exec = Jvm.exec) (hZ : Z.Warmed39 s.vm) (hw : ∀ d ∈ tables_1, d.before a0 Z = true) (hby : c.code = code) (hml : c.maxLocals = 10) (hown : s.vm.findClass "com/example/balanza/balanza/logic/ComparisonHoldsPinLaw" = some m.cls) (e0 : T0.heap = h0) (hs4 : One s4) (hc40 : ¬ (((i0 >>> ((2 : Int32) &&& 31)) &&& (1 : Int32)) = (0 : Int32))) :
    ∀ target, Steps p.tables e below (T0.setTop (mkF m 54 #[.val (.int i0), .val (.int i1), s2, s3, .val (.int i1), s5, s6, s7, s8, s9] [])) target → Steps p.tables e below (T0.setTop (mkF m 35 #[.val (.int i0), .val (.int i1), s2, s3, s4, s5, s6, s7, s8, s9] [])) target := by

  intro target kt
  show Steps p.tables e below (T0.setTop (mkF m 35 #[.val (.int i0), .val (.int i1), s2, s3, s4, s5, s6, s7, s8, s9] [])) _
  refine XS.iloadN X0.here hx rfl (hb hby at_35) rfl ?_
  show Steps p.tables e below (T0.setTop (mkF m 36 #[.val (.int i0), .val (.int i1), s2, s3, s4, s5, s6, s7, s8, s9] [(.int i0)])) _
  refine XS.iconst X0.here hx rfl (hb hby at_36) ?_
  show Steps p.tables e below (T0.setTop (mkF m 37 #[.val (.int i0), .val (.int i1), s2, s3, s4, s5, s6, s7, s8, s9] [(.int (2 : Int32)), (.int i0)])) _
  refine XS.ishr X0.here hx rfl (hb hby at_37) rfl ?_
  show Steps p.tables e below (T0.setTop (mkF m 38 #[.val (.int i0), .val (.int i1), s2, s3, s4, s5, s6, s7, s8, s9] [(.int (i0 >>> ((2 : Int32) &&& 31)))])) _
  refine XS.iconst X0.here hx rfl (hb hby at_38) ?_
  show Steps p.tables e below (T0.setTop (mkF m 39 #[.val (.int i0), .val (.int i1), s2, s3, s4, s5, s6, s7, s8, s9] [(.int (1 : Int32)), (.int (i0 >>> ((2 : Int32) &&& 31)))])) _
  refine XS.iand X0.here hx rfl (hb hby at_39) rfl ?_
  show Steps p.tables e below (T0.setTop (mkF m 40 #[.val (.int i0), .val (.int i1), s2, s3, s4, s5, s6, s7, s8, s9] [(.int ((i0 >>> ((2 : Int32) &&& 31)) &&& (1 : Int32)))])) _
  refine XS.ifNo X0.here hx rfl (hb hby at_40) rfl ((if0 _ _).trans (feq hc40).1) ?_
  show Steps p.tables e below (T0.setTop (mkF m 43 #[.val (.int i0), .val (.int i1), s2, s3, s4, s5, s6, s7, s8, s9] [])) _
  refine XS.iloadN X0.here hx rfl (hb hby at_43) rfl ?_
  show Steps p.tables e below (T0.setTop (mkF m 44 #[.val (.int i0), .val (.int i1), s2, s3, s4, s5, s6, s7, s8, s9] [(.int i1)])) _
  refine XS.goto X0.here hx rfl (pc0 := 44) (pc' := 52) rfl (hb hby at_44) (by decide) (by decide) ?_
  show Steps p.tables e below (T0.setTop (mkF m 52 #[.val (.int i0), .val (.int i1), s2, s3, s4, s5, s6, s7, s8, s9] [(.int i1)])) _
  refine XS.istore X0.here hx rfl (hb hby at_52) rfl (l' := #[.val (.int i0), .val (.int i1), s2, s3, .val (.int i1), s5, s6, s7, s8, s9]) (os0_52_35 hs4) ?_
  exact kt


set_option maxRecDepth 65536 in
set_option maxHeartbeats 40000000 in
theorem own_pBb {p : Program} {l : Launch} {e : Env} {R : Room} {s : State} {m : MethodId} {args : Array Value} {below : List Frame} {meth : Method} {c : Code} {T0 : State} {locs : List Loc} {cells slots : Nat} {Z : State} {a0 : Array Value} {h0 : Heap} (i0 : Int32) (i1 : Int32) (s2 : Slot) (s3 : Slot) (s4 : Slot) (s5 : Slot) (s6 : Slot) (s7 : Slot) (s8 : Slot) (s9 : Slot)
    (X0 : Stand p l e R s m args below meth c T0 locs cells slots) (hx : p.tables.exec = Jvm.exec) (hZ : Z.Warmed39 s.vm) (hw : ∀ d ∈ tables_1, d.before a0 Z = true) (hby : c.code = code) (hml : c.maxLocals = 10) (hown : s.vm.findClass "com/example/balanza/balanza/logic/ComparisonHoldsPinLaw" = some m.cls) (e0 : T0.heap = h0) (hs4 : One s4) (hc40 : ((i0 >>> ((2 : Int32) &&& 31)) &&& (1 : Int32)) = (0 : Int32)) :
    ∀ target, Steps p.tables e below (T0.setTop (mkF m 54 #[.val (.int i0), .val (.int i1), s2, s3, .val (.int ((i1 &&& (3 : Int32)) - (1 : Int32))), s5, s6, s7, s8, s9] [])) target → Steps p.tables e below (T0.setTop (mkF m 35 #[.val (.int i0), .val (.int i1), s2, s3, s4, s5, s6, s7, s8, s9] [])) target := by

  intro target kt
  show Steps p.tables e below (T0.setTop (mkF m 35 #[.val (.int i0), .val (.int i1), s2, s3, s4, s5, s6, s7, s8, s9] [])) _
  refine XS.iloadN X0.here hx rfl (hb hby at_35) rfl ?_
  show Steps p.tables e below (T0.setTop (mkF m 36 #[.val (.int i0), .val (.int i1), s2, s3, s4, s5, s6, s7, s8, s9] [(.int i0)])) _
  refine XS.iconst X0.here hx rfl (hb hby at_36) ?_
  show Steps p.tables e below (T0.setTop (mkF m 37 #[.val (.int i0), .val (.int i1), s2, s3, s4, s5, s6, s7, s8, s9] [(.int (2 : Int32)), (.int i0)])) _
  refine XS.ishr X0.here hx rfl (hb hby at_37) rfl ?_
  show Steps p.tables e below (T0.setTop (mkF m 38 #[.val (.int i0), .val (.int i1), s2, s3, s4, s5, s6, s7, s8, s9] [(.int (i0 >>> ((2 : Int32) &&& 31)))])) _
  refine XS.iconst X0.here hx rfl (hb hby at_38) ?_
  show Steps p.tables e below (T0.setTop (mkF m 39 #[.val (.int i0), .val (.int i1), s2, s3, s4, s5, s6, s7, s8, s9] [(.int (1 : Int32)), (.int (i0 >>> ((2 : Int32) &&& 31)))])) _
  refine XS.iand X0.here hx rfl (hb hby at_39) rfl ?_
  show Steps p.tables e below (T0.setTop (mkF m 40 #[.val (.int i0), .val (.int i1), s2, s3, s4, s5, s6, s7, s8, s9] [(.int ((i0 >>> ((2 : Int32) &&& 31)) &&& (1 : Int32)))])) _
  refine XS.ifYes X0.here hx rfl (pc0 := 40) (pc' := 47) rfl (hb hby at_40) rfl ((if0 _ _).trans (teq hc40).1) (by decide) (by decide) ?_
  show Steps p.tables e below (T0.setTop (mkF m 47 #[.val (.int i0), .val (.int i1), s2, s3, s4, s5, s6, s7, s8, s9] [])) _
  refine XS.iloadN X0.here hx rfl (hb hby at_47) rfl ?_
  show Steps p.tables e below (T0.setTop (mkF m 48 #[.val (.int i0), .val (.int i1), s2, s3, s4, s5, s6, s7, s8, s9] [(.int i1)])) _
  refine XS.iconst X0.here hx rfl (hb hby at_48) ?_
  show Steps p.tables e below (T0.setTop (mkF m 49 #[.val (.int i0), .val (.int i1), s2, s3, s4, s5, s6, s7, s8, s9] [(.int (3 : Int32)), (.int i1)])) _
  refine XS.iand X0.here hx rfl (hb hby at_49) rfl ?_
  show Steps p.tables e below (T0.setTop (mkF m 50 #[.val (.int i0), .val (.int i1), s2, s3, s4, s5, s6, s7, s8, s9] [(.int (i1 &&& (3 : Int32)))])) _
  refine XS.iconst X0.here hx rfl (hb hby at_50) ?_
  show Steps p.tables e below (T0.setTop (mkF m 51 #[.val (.int i0), .val (.int i1), s2, s3, s4, s5, s6, s7, s8, s9] [(.int (1 : Int32)), (.int (i1 &&& (3 : Int32)))])) _
  refine XS.isub X0.here hx rfl (hb hby at_51) rfl ?_
  show Steps p.tables e below (T0.setTop (mkF m 52 #[.val (.int i0), .val (.int i1), s2, s3, s4, s5, s6, s7, s8, s9] [(.int ((i1 &&& (3 : Int32)) - (1 : Int32)))])) _
  refine XS.istore X0.here hx rfl (hb hby at_52) rfl (l' := #[.val (.int i0), .val (.int i1), s2, s3, .val (.int ((i1 &&& (3 : Int32)) - (1 : Int32))), s5, s6, s7, s8, s9]) (os0_52_35 hs4) ?_
  exact kt

theorem own_pB {p : Program} {l : Launch} {e : Env} {R : Room} {s : State} {m : MethodId} {args : Array Value} {below : List Frame} {meth : Method} {c : Code} {T0 : State} {locs : List Loc} {cells slots : Nat} {Z : State} {a0 : Array Value} {h0 : Heap} (i0 : Int32) (i1 : Int32) (s2 : Slot) (s3 : Slot) (s4 : Slot) (s5 : Slot) (s6 : Slot) (s7 : Slot) (s8 : Slot) (s9 : Slot)
    (o : Int32) (X0 : Stand p l e R s m args below meth c T0 locs cells slots) (hx : p.tables.exec = Jvm.exec) (hZ : Z.Warmed39 s.vm) (hw : ∀ d ∈ tables_1, d.before a0 Z = true) (hby : c.code = code) (hml : c.maxLocals = 10) (hown : s.vm.findClass "com/example/balanza/balanza/logic/ComparisonHoldsPinLaw" = some m.cls) (e0 : T0.heap = h0) (hs4 : One s4) (ho : own_o i0 i1 o) :
    ∀ target, Steps p.tables e below (T0.setTop (mkF m 54 #[.val (.int i0), .val (.int i1), s2, s3, .val (.int o), s5, s6, s7, s8, s9] [])) target → Steps p.tables e below (T0.setTop (mkF m 35 #[.val (.int i0), .val (.int i1), s2, s3, s4, s5, s6, s7, s8, s9] [])) target := by
  rcases ho with ⟨q, rfl⟩ | ⟨q, rfl⟩
  · exact own_pBa i0 o s2 s3 s4 s5 s6 s7 s8 s9 X0 hx hZ hw hby hml hown e0 hs4 q
  · exact own_pBb i0 i1 s2 s3 s4 s5 s6 s7 s8 s9 X0 hx hZ hw hby hml hown e0 hs4 q

theorem os0_140_133 {s0 : Slot} {s1 : Slot} {s2 : Slot} {s3 : Slot} {z4 : Value} {s5 : Slot} {z6 : Value} {s7 : Slot} {s8 : Slot} {s9 : Slot} {v : Int32} (h : One s9) : storeLocals #[s0, s1, s2, s3, .val z4, s5, .val z6, s7, s8, s9] 9 (.int v) = some #[s0, s1, s2, s3, .val z4, s5, .val z6, s7, s8, .val (.int v)] := by
  rcases h with rfl | ⟨w, rfl, hw⟩
  · rfl
  · cases w <;> first | rfl | (simp [Value.category] at hw)
set_option maxRecDepth 65536 in
set_option maxHeartbeats 40000000 in
theorem own_pDa {p : Program} {l : Launch} {e : Env} {R : Room} {s : State} {m : MethodId} {args : Array Value} {below : List Frame} {meth : Method} {c : Code} {T0 : State} {locs : List Loc} {cells slots : Nat} {Z : State} {a0 : Array Value} {h0 : Heap} (s0 : Slot) (s1 : Slot) (s2 : Slot) (s3 : Slot) (i4 : Int32) (s5 : Slot) (i6 : Int32) (s7 : Slot) (s8 : Slot) (s9 : Slot)
    (X0 : Stand p l e R s m args below meth c T0 locs cells slots) (hx : p.tables.exec = Jvm.exec) (hZ : Z.Warmed39 s.vm) (hw : ∀ d ∈ tables_1, d.before a0 Z = true) (hby : c.code = code) (hml : c.maxLocals = 10) (hown : s.vm.findClass "com/example/balanza/balanza/logic/ComparisonHoldsPinLaw" = some m.cls) (e0 : T0.heap = h0) (hs9 : One s9) (hc135 : i4 < (0 : Int32)) :
    ∀ target, Steps p.tables e below (T0.setTop (mkF m 161 #[s0, s1, s2, s3, .val (.int i4), s5, .val (.int i6), s7, s8, .val (.int i6)] [])) target → Steps p.tables e below (T0.setTop (mkF m 133 #[s0, s1, s2, s3, .val (.int i4), s5, .val (.int i6), s7, s8, s9] [])) target := by

  intro target kt
  show Steps p.tables e below (T0.setTop (mkF m 133 #[s0, s1, s2, s3, .val (.int i4), s5, .val (.int i6), s7, s8, s9] [])) _
  refine XS.iload X0.here hx rfl (hb hby at_133) rfl ?_
  show Steps p.tables e below (T0.setTop (mkF m 135 #[s0, s1, s2, s3, .val (.int i4), s5, .val (.int i6), s7, s8, s9] [(.int i4)])) _
  refine XS.ifNo X0.here hx rfl (hb hby at_135) rfl ((if0 _ _).trans (tlt hc135).2.1) ?_
  show Steps p.tables e below (T0.setTop (mkF m 138 #[s0, s1, s2, s3, .val (.int i4), s5, .val (.int i6), s7, s8, s9] [])) _
  refine XS.iload X0.here hx rfl (hb hby at_138) rfl ?_
  show Steps p.tables e below (T0.setTop (mkF m 140 #[s0, s1, s2, s3, .val (.int i4), s5, .val (.int i6), s7, s8, s9] [(.int i6)])) _
  refine XS.istore X0.here hx rfl (hb hby at_140) rfl (l' := #[s0, s1, s2, s3, .val (.int i4), s5, .val (.int i6), s7, s8, .val (.int i6)]) (os0_140_133 hs9) ?_
  show Steps p.tables e below (T0.setTop (mkF m 142 #[s0, s1, s2, s3, .val (.int i4), s5, .val (.int i6), s7, s8, .val (.int i6)] [])) _
  refine XS.goto X0.here hx rfl (pc0 := 142) (pc' := 161) rfl (hb hby at_142) (by decide) (by decide) ?_
  exact kt

theorem os0_152_133 {s0 : Slot} {s1 : Slot} {s2 : Slot} {s3 : Slot} {z4 : Value} {s5 : Slot} {s6 : Slot} {s7 : Slot} {z8 : Value} {s9 : Slot} {v : Int32} (h : One s9) : storeLocals #[s0, s1, s2, s3, .val z4, s5, s6, s7, .val z8, s9] 9 (.int v) = some #[s0, s1, s2, s3, .val z4, s5, s6, s7, .val z8, .val (.int v)] := by
  rcases h with rfl | ⟨w, rfl, hw⟩
  · rfl
  · cases w <;> first | rfl | (simp [Value.category] at hw)
set_option maxRecDepth 65536 in
set_option maxHeartbeats 40000000 in
theorem own_pDb {p : Program} {l : Launch} {e : Env} {R : Room} {s : State} {m : MethodId} {args : Array Value} {below : List Frame} {meth : Method} {c : Code} {T0 : State} {locs : List Loc} {cells slots : Nat} {Z : State} {a0 : Array Value} {h0 : Heap} (s0 : Slot) (s1 : Slot) (s2 : Slot) (s3 : Slot) (i4 : Int32) (s5 : Slot) (s6 : Slot) (s7 : Slot) (i8 : Int32) (s9 : Slot)
    (X0 : Stand p l e R s m args below meth c T0 locs cells slots) (hx : p.tables.exec = Jvm.exec) (hZ : Z.Warmed39 s.vm) (hw : ∀ d ∈ tables_1, d.before a0 Z = true) (hby : c.code = code) (hml : c.maxLocals = 10) (hown : s.vm.findClass "com/example/balanza/balanza/logic/ComparisonHoldsPinLaw" = some m.cls) (e0 : T0.heap = h0) (hs9 : One s9) (hc135 : ¬ (i4 < (0 : Int32))) (hc147 : i4 = (0 : Int32)) :
    ∀ target, Steps p.tables e below (T0.setTop (mkF m 161 #[s0, s1, s2, s3, .val (.int i4), s5, s6, s7, .val (.int i8), .val (.int i8)] [])) target → Steps p.tables e below (T0.setTop (mkF m 133 #[s0, s1, s2, s3, .val (.int i4), s5, s6, s7, .val (.int i8), s9] [])) target := by

  intro target kt
  show Steps p.tables e below (T0.setTop (mkF m 133 #[s0, s1, s2, s3, .val (.int i4), s5, s6, s7, .val (.int i8), s9] [])) _
  refine XS.iload X0.here hx rfl (hb hby at_133) rfl ?_
  show Steps p.tables e below (T0.setTop (mkF m 135 #[s0, s1, s2, s3, .val (.int i4), s5, s6, s7, .val (.int i8), s9] [(.int i4)])) _
  refine XS.ifYes X0.here hx rfl (pc0 := 135) (pc' := 145) rfl (hb hby at_135) rfl ((if0 _ _).trans (flt hc135).2.1) (by decide) (by decide) ?_
  show Steps p.tables e below (T0.setTop (mkF m 145 #[s0, s1, s2, s3, .val (.int i4), s5, s6, s7, .val (.int i8), s9] [])) _
  refine XS.iload X0.here hx rfl (hb hby at_145) rfl ?_
  show Steps p.tables e below (T0.setTop (mkF m 147 #[s0, s1, s2, s3, .val (.int i4), s5, s6, s7, .val (.int i8), s9] [(.int i4)])) _
  refine XS.ifNo X0.here hx rfl (hb hby at_147) rfl ((if0 _ _).trans (teq hc147).2) ?_
  show Steps p.tables e below (T0.setTop (mkF m 150 #[s0, s1, s2, s3, .val (.int i4), s5, s6, s7, .val (.int i8), s9] [])) _
  refine XS.iload X0.here hx rfl (hb hby at_150) rfl ?_
  show Steps p.tables e below (T0.setTop (mkF m 152 #[s0, s1, s2, s3, .val (.int i4), s5, s6, s7, .val (.int i8), s9] [(.int i8)])) _
  refine XS.istore X0.here hx rfl (hb hby at_152) rfl (l' := #[s0, s1, s2, s3, .val (.int i4), s5, s6, s7, .val (.int i8), .val (.int i8)]) (os0_152_133 hs9) ?_
  show Steps p.tables e below (T0.setTop (mkF m 154 #[s0, s1, s2, s3, .val (.int i4), s5, s6, s7, .val (.int i8), .val (.int i8)] [])) _
  refine XS.goto X0.here hx rfl (pc0 := 154) (pc' := 161) rfl (hb hby at_154) (by decide) (by decide) ?_
  exact kt

theorem os0_159_133 {s0 : Slot} {s1 : Slot} {s2 : Slot} {s3 : Slot} {z4 : Value} {s5 : Slot} {s6 : Slot} {z7 : Value} {s8 : Slot} {s9 : Slot} {v : Int32} (h : One s9) : storeLocals #[s0, s1, s2, s3, .val z4, s5, s6, .val z7, s8, s9] 9 (.int v) = some #[s0, s1, s2, s3, .val z4, s5, s6, .val z7, s8, .val (.int v)] := by
  rcases h with rfl | ⟨w, rfl, hw⟩
  · rfl
  · cases w <;> first | rfl | (simp [Value.category] at hw)
set_option maxRecDepth 65536 in
set_option maxHeartbeats 40000000 in
theorem own_pDc {p : Program} {l : Launch} {e : Env} {R : Room} {s : State} {m : MethodId} {args : Array Value} {below : List Frame} {meth : Method} {c : Code} {T0 : State} {locs : List Loc} {cells slots : Nat} {Z : State} {a0 : Array Value} {h0 : Heap} (s0 : Slot) (s1 : Slot) (s2 : Slot) (s3 : Slot) (i4 : Int32) (s5 : Slot) (s6 : Slot) (i7 : Int32) (s8 : Slot) (s9 : Slot)
    (X0 : Stand p l e R s m args below meth c T0 locs cells slots) (hx : p.tables.exec = Jvm.exec) (hZ : Z.Warmed39 s.vm) (hw : ∀ d ∈ tables_1, d.before a0 Z = true) (hby : c.code = code) (hml : c.maxLocals = 10) (hown : s.vm.findClass "com/example/balanza/balanza/logic/ComparisonHoldsPinLaw" = some m.cls) (e0 : T0.heap = h0) (hs9 : One s9) (hc135 : ¬ (i4 < (0 : Int32))) (hc147 : ¬ (i4 = (0 : Int32))) :
    ∀ target, Steps p.tables e below (T0.setTop (mkF m 161 #[s0, s1, s2, s3, .val (.int i4), s5, s6, .val (.int i7), s8, .val (.int i7)] [])) target → Steps p.tables e below (T0.setTop (mkF m 133 #[s0, s1, s2, s3, .val (.int i4), s5, s6, .val (.int i7), s8, s9] [])) target := by

  intro target kt
  show Steps p.tables e below (T0.setTop (mkF m 133 #[s0, s1, s2, s3, .val (.int i4), s5, s6, .val (.int i7), s8, s9] [])) _
  refine XS.iload X0.here hx rfl (hb hby at_133) rfl ?_
  show Steps p.tables e below (T0.setTop (mkF m 135 #[s0, s1, s2, s3, .val (.int i4), s5, s6, .val (.int i7), s8, s9] [(.int i4)])) _
  refine XS.ifYes X0.here hx rfl (pc0 := 135) (pc' := 145) rfl (hb hby at_135) rfl ((if0 _ _).trans (flt hc135).2.1) (by decide) (by decide) ?_
  show Steps p.tables e below (T0.setTop (mkF m 145 #[s0, s1, s2, s3, .val (.int i4), s5, s6, .val (.int i7), s8, s9] [])) _
  refine XS.iload X0.here hx rfl (hb hby at_145) rfl ?_
  show Steps p.tables e below (T0.setTop (mkF m 147 #[s0, s1, s2, s3, .val (.int i4), s5, s6, .val (.int i7), s8, s9] [(.int i4)])) _
  refine XS.ifYes X0.here hx rfl (pc0 := 147) (pc' := 157) rfl (hb hby at_147) rfl ((if0 _ _).trans (feq hc147).2) (by decide) (by decide) ?_
  show Steps p.tables e below (T0.setTop (mkF m 157 #[s0, s1, s2, s3, .val (.int i4), s5, s6, .val (.int i7), s8, s9] [])) _
  refine XS.iload X0.here hx rfl (hb hby at_157) rfl ?_
  show Steps p.tables e below (T0.setTop (mkF m 159 #[s0, s1, s2, s3, .val (.int i4), s5, s6, .val (.int i7), s8, s9] [(.int i7)])) _
  refine XS.istore X0.here hx rfl (hb hby at_159) rfl (l' := #[s0, s1, s2, s3, .val (.int i4), s5, s6, .val (.int i7), s8, .val (.int i7)]) (os0_159_133 hs9) ?_
  exact kt

theorem own_pD {p : Program} {l : Launch} {e : Env} {R : Room} {s : State} {m : MethodId} {args : Array Value} {below : List Frame} {meth : Method} {c : Code} {T0 : State} {locs : List Loc} {cells slots : Nat} {Z : State} {a0 : Array Value} {h0 : Heap} (s0 : Slot) (s1 : Slot) (s2 : Slot) (s3 : Slot) (i4 : Int32) (s5 : Slot) (i6 : Int32) (i7 : Int32) (i8 : Int32) (s9 : Slot) (xx : Int32)
    (X0 : Stand p l e R s m args below meth c T0 locs cells slots) (hx : p.tables.exec = Jvm.exec) (hZ : Z.Warmed39 s.vm) (hw : ∀ d ∈ tables_1, d.before a0 Z = true) (hby : c.code = code) (hml : c.maxLocals = 10) (hown : s.vm.findClass "com/example/balanza/balanza/logic/ComparisonHoldsPinLaw" = some m.cls) (e0 : T0.heap = h0) (hs9 : One s9) (hxx : own_x i6 i7 i8 i4 xx) :
    ∀ target, Steps p.tables e below (T0.setTop (mkF m 161 #[s0, s1, s2, s3, .val (.int i4), s5, .val (.int i6), .val (.int i7), .val (.int i8), .val (.int xx)] [])) target → Steps p.tables e below (T0.setTop (mkF m 133 #[s0, s1, s2, s3, .val (.int i4), s5, .val (.int i6), .val (.int i7), .val (.int i8), s9] [])) target := by
  rcases hxx with ⟨q, rfl⟩ | ⟨q, q', rfl⟩ | ⟨q, q', rfl⟩
  · exact own_pDa s0 s1 s2 s3 i4 s5 xx (.val (.int i7)) (.val (.int i8)) s9 X0 hx hZ hw hby hml hown e0 hs9 q
  · exact own_pDb s0 s1 s2 s3 i4 s5 (.val (.int i6)) (.val (.int i7)) xx s9 X0 hx hZ hw hby hml hown e0 hs9 q q'
  · exact own_pDc s0 s1 s2 s3 i4 s5 (.val (.int i6)) xx (.val (.int i8)) s9 X0 hx hZ hw hby hml hown e0 hs9 q q'

theorem pn_0 : plainName "com/example/balanza/balanza/logic/ComparisonHoldsPinLaw" = true := by first | (simp [plainName, overriddenIn]; done) | decide +kernel
theorem pd_0_0 : parseMethodDescriptor "()Ljava/lang/String;" = some ⟨[], some (.object "java/lang/String")⟩ := by decide +kernel
theorem pd_0_1 : parseMethodDescriptor "()Z" = some ⟨[], some .boolean⟩ := by decide +kernel
theorem pd_0_2 : parseMethodDescriptor "(I)C" = some ⟨[.int], some .char⟩ := by decide +kernel
theorem pd_0_6 : parseMethodDescriptor "()I" = some ⟨[], some .int⟩ := by decide +kernel
theorem pd_0_8 : parseMethodDescriptor "(I)Z" = some ⟨[.int], some .boolean⟩ := by decide +kernel
theorem ef_0 (m : MethodId) (x0 : Int32) (x1 : Int32) : entryFrame m #[(.int x0), (.int x1)] maxLocals = mkF m 0 #[.val (.int x0), .val (.int x1), .unset, .unset, .unset, .unset, .unset, .unset, .unset, .unset] [] := by first | (simp [entryFrame, mkF, argsToLocals, Value.category, maxLocals]; done) | rfl
def Q0 (Z : State) (p1 : Int32) (p2 : Int32) (h0 : Heap) (n0 : Nat) (v : Option Value) (h : Heap) (L : List Loc) : Prop := v = some (.int (1 : Int32)) ∧ Fr n0 L
set_option maxRecDepth 65536 in
set_option maxHeartbeats 40000000 in
theorem rm0_0 (l : Launch) (Z : State) (a0 : Array Value) (hw : ∀ d ∈ tables_1, d.before a0 Z = true) (ws : List Jvm.Cond) (p1 : Int32) (p2 : Int32) (w4 w7 w10 w13 : Addr) (h0 : Heap) (n0 : Nat) (Z0 : n0 ≤ h0.size) (S_LESS : Sta Z h0 "com/example/balanza/balanza/logic/Comparison" "LESS" "Lcom/example/balanza/balanza/logic/Comparison;" (.ref w4)) (S_AT_MOST : Sta Z h0 "com/example/balanza/balanza/logic/Comparison" "AT_MOST" "Lcom/example/balanza/balanza/logic/Comparison;" (.ref w7)) (S_GREATER : Sta Z h0 "com/example/balanza/balanza/logic/Comparison" "GREATER" "Lcom/example/balanza/balanza/logic/Comparison;" (.ref w10)) (S_AT_LEAST : Sta Z h0 "com/example/balanza/balanza/logic/Comparison" "AT_LEAST" "Lcom/example/balanza/balanza/logic/Comparison;" (.ref w13)) (E_0 : Exa Z h0 w4 "com/example/balanza/balanza/logic/Comparison") (E_1 : Exa Z h0 w7 "com/example/balanza/balanza/logic/Comparison") (E_2 : Exa Z h0 w10 "com/example/balanza/balanza/logic/Comparison") (E_3 : Exa Z h0 w13 "com/example/balanza/balanza/logic/Comparison") (cw : Int32) (Scw : Sta Z h0 "java/lang/String" "COMPACT_STRINGS" "Z" (.int cw)) (hcw : ¬ (cw = (0 : Int32))) (fr : Value) (Sfr : Sta Z h0 "jdk/internal/util/Preconditions" "SIOOBE_FORMATTER" "Ljava/util/function/BiFunction;" fr) (hfr : fr.isRef = true) (CX : own_C Z h0 w4 (0 : Int32) (1 : Int32) [(.int (60 : Int32))]) (hk : (p1 &&& (3 : Int32)) = (0 : Int32)) :
    MetFree l x (head1 (Jvm.Cond.code x code maxLocals ret :: ws) room_1) (fun a U => a = #[(.int p1), (.int p2)] ∧ Z.Warmed39 U.vm ∧ U.heap = h0) (fun _ _ _ _ _ => True) (fun _ U o U' => ∃ v L, o = .returned v ∧ Q0 Z p1 p2 h0 n0 v U'.heap L ∧ FrameEnd U o U' L room_1.cells room_1.slots) := by
  refine MetFree.of_bodySF (plainFor_of_name pn_0) hisR ?_
  intro p e s m args below meth c s₁ Bd hml0 hP hK
  obtain ⟨rfl, hZ, hh⟩ := hP
  have hx := Bd.exec
  have hby := Bd.bytes
  have hml : c.maxLocals = 10 := hml0
  have hown : s.vm.findClass "com/example/balanza/balanza/logic/ComparisonHoldsPinLaw" = some m.cls := findClass_of_methodNamed Bd.named
  have hnm := (name_of_methodNamed Bd.named Bd.method).1
  have X0 : Stand p l e room_1 s m #[(.int p1), (.int p2)] below meth c s₁ [] 0 0 := Stand.of_body Bd
  have e0 : s₁.heap = h0 := by rw [← hh, Bd.state]; rfl
  have N0 := Fr.nil n0
  have pre0 : ∀ t, Steps p.tables e below (s₁.setTop (mkF m 0 #[.val (.int p1), .val (.int p2), .unset, .unset, .unset, .unset, .unset, .unset, .unset, .unset] [])) t → Steps p.tables e below (s₁.setTop (entryFrame m #[(.int p1), (.int p2)] maxLocals)) t := fun t k => castTop (ef_0 m p1 p2) k
  obtain ⟨o, ho⟩ := own_o_all p1 p2
  obtain ⟨xx, hxx⟩ := own_x_all (1 : Int32) (0 : Int32) (0 : Int32) o
  obtain ⟨T3, h3, k3, X3, e3, E3, A3, O3, st3⟩ := newR X0 hx hZ hown (hw _ (List.mem_of_getElem? (i := 0) rfl)) (hw _ (List.mem_of_getElem? (i := 1) rfl)) e0 (g := (mkF m 1 #[.val (.int p1), .val (.int p2), .unset, .unset, .unset, .unset, .unset, .unset, .unset, .unset] [(.int (4 : Int32))])) rfl (hb hby at_1) rfl (by decide) (cap := 4) (by decide) (by decide) (by decide) (by decide)
  obtain ⟨b3, g3⟩ : ∃ z, z = h0.size := ⟨_, rfl⟩
  rw [← g3] at A3 st3
  have V_b3 : Arv Z h3 b3 k3 (.object "com/example/balanza/balanza/logic/Comparison") (4 : Int32) [.null, .null, .null, .null] .null := (Arv.new A3 (by decide)).pad (pad_rep [] .null 4)
  have g_b3 : n0 ≤ b3 := Nat.le_trans Z0 (Nat.le_of_eq g3.symm)
  have sz_b3 : h0.size ≤ b3 := (Nat.le_trans (Keep.refl h0 []).1 (Nat.le_of_eq g3.symm))
  have K3 : Keep h0 h3 [] := (Keep.refl h0 []).ext E3
  obtain ⟨T5, X5, e5, st5⟩ := getS2 X3 hx hZ hown (host := "") (Or.inl (hw _ (List.mem_of_getElem? (i := 2) rfl))) Via.refl e3 (S_LESS.ext E3) (g := (mkF m 6 #[.val (.int p1), .val (.int p2), .unset, .unset, .unset, .unset, .unset, .unset, .unset, .unset] [(.int (0 : Int32)), (.ref b3), (.ref b3)])) rfl (hb hby at_6)
  obtain ⟨cl_0, Ar_b3, q_b3, S_b3, N_b3, H_b3, G_b3⟩ := V_b3
  have hin9 : ¬ ((0 : Int32) < 0 ∨ cl_0.slots.size ≤ ((0 : Int32)).toNatClampNeg) := inb_of S_b3 ⟨by decide, by decide⟩
  have Sto9 := Sto.ofV Ar_b3 q_b3 O3 (Ins.self (E_0.ext E3))
  obtain ⟨T6, h6, X6, e6, W6, st6⟩ := stR X5 hx hZ e5 Ar_b3 (j := (0 : Int32)) hin9 rfl Sto9 (g := (mkF m 9 #[.val (.int p1), .val (.int p2), .unset, .unset, .unset, .unset, .unset, .unset, .unset, .unset] [(.ref w4), (.int (0 : Int32)), (.ref b3), (.ref b3)])) rfl rfl (hb hby at_9)
  have V_b3_6 := Arv.set Ar_b3 q_b3 S_b3 N_b3 H_b3 G_b3 rfl W6 0 rfl (Nat.le_of_ble_eq_true rfl)
  have N6 := Fr.snoc X6 N0 g_b3
  have K6 : Keep h0 h6 [] := K3.wr W6 (Or.inr sz_b3)
  obtain ⟨T8, X8, e8, st8⟩ := getS2 X6 hx hZ hown (host := "") (Or.inl (hw _ (List.mem_of_getElem? (i := 6) rfl))) Via.refl e6 ((S_AT_MOST.ext E3).wr W6) (g := (mkF m 12 #[.val (.int p1), .val (.int p2), .unset, .unset, .unset, .unset, .unset, .unset, .unset, .unset] [(.int (1 : Int32)), (.ref b3), (.ref b3)])) rfl (hb hby at_12)
  obtain ⟨cl_1, Ar_b3, q_b3, S_b3, N_b3, H_b3, G_b3⟩ := V_b3_6
  have hin15 : ¬ ((1 : Int32) < 0 ∨ cl_1.slots.size ≤ ((1 : Int32)).toNatClampNeg) := inb_of S_b3 ⟨by decide, by decide⟩
  have Sto15 := Sto.ofV Ar_b3 q_b3 O3 (Ins.self ((E_1.ext E3).wr W6))
  obtain ⟨T9, h9, X9, e9, W9, st9⟩ := stR X8 hx hZ e8 Ar_b3 (j := (1 : Int32)) hin15 rfl Sto15 (g := (mkF m 15 #[.val (.int p1), .val (.int p2), .unset, .unset, .unset, .unset, .unset, .unset, .unset, .unset] [(.ref w7), (.int (1 : Int32)), (.ref b3), (.ref b3)])) rfl rfl (hb hby at_15)
  have V_b3_9 := Arv.set Ar_b3 q_b3 S_b3 N_b3 H_b3 G_b3 rfl W9 1 rfl (Nat.le_of_ble_eq_true rfl)
  have N9 := Fr.snoc X9 N6 g_b3
  have K9 : Keep h0 h9 [] := K6.wr W9 (Or.inr sz_b3)
  obtain ⟨T11, X11, e11, st11⟩ := getS2 X9 hx hZ hown (host := "") (Or.inl (hw _ (List.mem_of_getElem? (i := 8) rfl))) Via.refl e9 (((S_GREATER.ext E3).wr W6).wr W9) (g := (mkF m 18 #[.val (.int p1), .val (.int p2), .unset, .unset, .unset, .unset, .unset, .unset, .unset, .unset] [(.int (2 : Int32)), (.ref b3), (.ref b3)])) rfl (hb hby at_18)
  obtain ⟨cl_2, Ar_b3, q_b3, S_b3, N_b3, H_b3, G_b3⟩ := V_b3_9
  have hin21 : ¬ ((2 : Int32) < 0 ∨ cl_2.slots.size ≤ ((2 : Int32)).toNatClampNeg) := inb_of S_b3 ⟨by decide, by decide⟩
  have Sto21 := Sto.ofV Ar_b3 q_b3 O3 (Ins.self (((E_2.ext E3).wr W6).wr W9))
  obtain ⟨T12, h12, X12, e12, W12, st12⟩ := stR X11 hx hZ e11 Ar_b3 (j := (2 : Int32)) hin21 rfl Sto21 (g := (mkF m 21 #[.val (.int p1), .val (.int p2), .unset, .unset, .unset, .unset, .unset, .unset, .unset, .unset] [(.ref w10), (.int (2 : Int32)), (.ref b3), (.ref b3)])) rfl rfl (hb hby at_21)
  have V_b3_12 := Arv.set Ar_b3 q_b3 S_b3 N_b3 H_b3 G_b3 rfl W12 2 rfl (Nat.le_of_ble_eq_true rfl)
  have N12 := Fr.snoc X12 N9 g_b3
  have K12 : Keep h0 h12 [] := K9.wr W12 (Or.inr sz_b3)
  obtain ⟨T14, X14, e14, st14⟩ := getS2 X12 hx hZ hown (host := "") (Or.inl (hw _ (List.mem_of_getElem? (i := 10) rfl))) Via.refl e12 ((((S_AT_LEAST.ext E3).wr W6).wr W9).wr W12) (g := (mkF m 24 #[.val (.int p1), .val (.int p2), .unset, .unset, .unset, .unset, .unset, .unset, .unset, .unset] [(.int (3 : Int32)), (.ref b3), (.ref b3)])) rfl (hb hby at_24)
  obtain ⟨cl_3, Ar_b3, q_b3, S_b3, N_b3, H_b3, G_b3⟩ := V_b3_12
  have hin27 : ¬ ((3 : Int32) < 0 ∨ cl_3.slots.size ≤ ((3 : Int32)).toNatClampNeg) := inb_of S_b3 ⟨by decide, by decide⟩
  have Sto27 := Sto.ofV Ar_b3 q_b3 O3 (Ins.self ((((E_3.ext E3).wr W6).wr W9).wr W12))
  obtain ⟨T15, h15, X15, e15, W15, st15⟩ := stR X14 hx hZ e14 Ar_b3 (j := (3 : Int32)) hin27 rfl Sto27 (g := (mkF m 27 #[.val (.int p1), .val (.int p2), .unset, .unset, .unset, .unset, .unset, .unset, .unset, .unset] [(.ref w13), (.int (3 : Int32)), (.ref b3), (.ref b3)])) rfl rfl (hb hby at_27)
  have V_b3_15 := Arv.set Ar_b3 q_b3 S_b3 N_b3 H_b3 G_b3 rfl W15 3 rfl (Nat.le_of_ble_eq_true rfl)
  have N15 := Fr.snoc X15 N12 g_b3
  have K15 : Keep h0 h15 [] := K12.wr W15 (Or.inr sz_b3)
  have V15 : Arv Z h15 b3 k3 (.object "com/example/balanza/balanza/logic/Comparison") (4 : Int32) [(.ref w4), (.ref w7), (.ref w10), (.ref w13)] .null := V_b3_15
  obtain ⟨cl_9, Ar_b3, q_b3, S_b3, N_b3, H_b3, G_b3⟩ := V15
  have hin33 : ¬ ((0 : Int32) < 0 ∨ cl_9.slots.size ≤ ((0 : Int32)).toNatClampNeg) := inb_of S_b3 ⟨by decide, by decide⟩
  have hat33 : cl_9.slots[((0 : Int32)).toNatClampNeg]? = some (.ref w4) := H_b3.at hin33 rfl
  have Z15 : n0 ≤ h15.size := Nat.le_trans Z0 K15.1
  have Scw15 := ((((Scw.ext E3).wr W6).wr W9).wr W12).wr W15
  have Sfr15 := ((((Sfr.ext E3).wr W6).wr W9).wr W12).wr W15
  obtain ⟨Ew, Fo, sy, va, kv, Fs, Es, Fv, Fc, Vv⟩ := CX.keep K15
  obtain ⟨clv, Av, qv, Sv, Nv, Hv, Gv⟩ := Vv
  have hi0 : ¬ ((0 : Int32) < 0 ∨ clv.slots.size ≤ ((0 : Int32)).toNatClampNeg) := inb_of Sv ⟨by decide, by decide⟩
  have ha0 : clv.slots[((0 : Int32)).toNatClampNeg]? = some (.int (60 : Int32)) := Hv.at hi0 rfl
  obtain ⟨cq17, kq17, q17a, q17b, q17c⟩ := isOf hZ e15 (Ew)
  obtain ⟨_, _, ⟨T17, L17, k17, n17⟩, -, X17, ⟨Lc17, hQ17, l17, y17, z17⟩, st17⟩ := X15.virtualBack hx (y := (⟨"com/example/balanza/balanza/logic/Comparison", "symbol", "()Ljava/lang/String;"⟩ : MethodName)) (z := (⟨"com/example/balanza/balanza/logic/Comparison", "symbol", "()Ljava/lang/String;"⟩ : MethodName)) hown (mvT hZ (hw _ (List.mem_of_getElem? (i := 12) rfl))) (mvT hZ (hw _ (List.mem_of_getElem? (i := 13) rfl))) (notFace_of_selects (args := #[]) (mvT hZ (hw _ (List.mem_of_getElem? (i := 15) rfl)))) (mvT hZ (hw _ (List.mem_of_getElem? (i := 15) rfl))) (mvT hZ (hw _ (List.mem_of_getElem? (i := 14) rfl))) (by decide) (backOf (W := 0) (rm1 l Z a0 hw [] w4 sy h15 n0 Z15 Fs) hZ (hw _ (List.mem_of_getElem? (i := 16) rfl)) (hw _ (List.mem_of_getElem? (i := 3) rfl)) (by decide) (by decide)) q17a q17c (g := (mkF m 55 #[.val (.int p1), .val (.int p2), .val (.ref b3), .val (.ref w4), .val (.int o), .unset, .unset, .unset, .unset, .unset] [(.ref w4)])) rfl (by rw [hml]; rfl) (Steps.refl _) (argsL := []) (rest := []) (lenOf pd_0_0 rfl) rfl (by show 2 * 0 + _ ≤ _; exact Nat.le_of_eq rfl) (hb hby at_55) (fun _ _ => ⟨rfl, e15, (by decide : 1 + 0 ≤ _), (by decide : 4 + 0 ≤ _)⟩)
  dsimp only [Pt.U, Pt.locs, Pt.cells, Pt.slots] at X17 l17 y17 z17 st17 hQ17
  subst l17 y17 z17
  obtain ⟨rfl, N17q, e17⟩ := hQ17
  have N17 := Fr.app N15 N17q
  obtain ⟨cq18, kq18, q18a, q18b, q18c⟩ := isOf hZ e17 (Es)
  obtain ⟨_, _, ⟨T18, L18, k18, n18⟩, -, X18, ⟨Lc18, hQ18, l18, y18, z18⟩, st18⟩ := X17.virtualBack hx (y := (⟨"java/lang/String", "isEmpty", "()Z"⟩ : MethodName)) (z := (⟨"java/lang/String", "isEmpty", "()Z"⟩ : MethodName)) hown (mvT hZ (hw _ (List.mem_of_getElem? (i := 19) rfl))) (mvT hZ (hw _ (List.mem_of_getElem? (i := 20) rfl))) (notFace_of_selects (args := #[]) (mvT hZ (hw _ (List.mem_of_getElem? (i := 22) rfl)))) (mvT hZ (hw _ (List.mem_of_getElem? (i := 22) rfl))) (mvT hZ (hw _ (List.mem_of_getElem? (i := 21) rfl))) (by decide) (backOf (W := 0) (rm2 l Z a0 hw [] sy va clv (1 : Int32) h15 n0 Z15 Fv Av Sv Nv (by decide)) hZ (hw _ (List.mem_of_getElem? (i := 24) rfl)) (hw _ (List.mem_of_getElem? (i := 23) rfl)) (by decide) (by decide)) q18a q18c (g := (mkF m 62 #[.val (.int p1), .val (.int p2), .val (.ref b3), .val (.ref w4), .val (.int o), .val (.ref sy), .unset, .unset, .unset, .unset] [(.ref sy)])) rfl (by rw [hml]; rfl) (Steps.refl _) (argsL := []) (rest := []) (lenOf pd_0_1 rfl) rfl (by show 2 * 0 + _ ≤ _; exact Nat.le_of_eq rfl) (hb hby at_62) (fun _ _ => ⟨rfl, e17, (by decide : 1 + 0 ≤ _), (by decide : 4 + 0 ≤ _)⟩)
  dsimp only [Pt.U, Pt.locs, Pt.cells, Pt.slots] at X18 l18 y18 z18 st18 hQ18
  subst l18 y18 z18
  obtain ⟨rfl, N18q, e18⟩ := hQ18
  have N18 := Fr.app N17 N18q
  obtain ⟨cq19, kq19, q19a, q19b, q19c⟩ := isOf hZ e18 (Es)
  obtain ⟨_, _, ⟨T19, L19, k19, n19⟩, -, X19, ⟨Lc19, hQ19, l19, y19, z19⟩, st19⟩ := X18.virtualBack hx (y := (⟨"java/lang/String", "charAt", "(I)C"⟩ : MethodName)) (z := (⟨"java/lang/String", "charAt", "(I)C"⟩ : MethodName)) hown (mvT hZ (hw _ (List.mem_of_getElem? (i := 27) rfl))) (mvT hZ (hw _ (List.mem_of_getElem? (i := 28) rfl))) (notFace_of_selects (args := #[]) (mvT hZ (hw _ (List.mem_of_getElem? (i := 30) rfl)))) (mvT hZ (hw _ (List.mem_of_getElem? (i := 30) rfl))) (mvT hZ (hw _ (List.mem_of_getElem? (i := 29) rfl))) (by decide) (backOf (W := 0) (rm3 l Z a0 hw [] sy (0 : Int32) va clv (1 : Int32) (60 : Int32) (60 : Int32) fr cw h15 n0 Z15 Es Fv Fc Av Sv Nv hi0 ha0 (by decide) (by decide) Scw15 hcw Sfr15 hfr (by decide) (by decide)) hZ (hw _ (List.mem_of_getElem? (i := 31) rfl)) (hw _ (List.mem_of_getElem? (i := 23) rfl)) (by decide) (by decide)) q19a q19c (g := (mkF m 73 #[.val (.int p1), .val (.int p2), .val (.ref b3), .val (.ref w4), .val (.int o), .val (.ref sy), .unset, .unset, .unset, .unset] [(.int (0 : Int32)), (.ref sy)])) rfl (by rw [hml]; rfl) (Steps.refl _) (argsL := [(.int (0 : Int32))]) (rest := []) (lenOf pd_0_2 rfl) rfl (by show 2 * 0 + _ ≤ _; exact Nat.le_of_eq rfl) (hb hby at_73) (fun _ _ => ⟨rfl, e18, (by decide : 1 + 0 ≤ _), (by decide : 4 + 0 ≤ _)⟩)
  dsimp only [Pt.U, Pt.locs, Pt.cells, Pt.slots] at X19 l19 y19 z19 st19 hQ19
  subst l19 y19 z19
  obtain ⟨rfl, N19q, e19⟩ := hQ19
  have N19 := Fr.app N18 N19q
  obtain ⟨cq20, kq20, q20a, q20b, q20c⟩ := isOf hZ e19 (Es)
  obtain ⟨_, _, ⟨T20, L20, k20, n20⟩, -, X20, ⟨Lc20, hQ20, l20, y20, z20⟩, st20⟩ := X19.virtualBack hx (y := (⟨"java/lang/String", "charAt", "(I)C"⟩ : MethodName)) (z := (⟨"java/lang/String", "charAt", "(I)C"⟩ : MethodName)) hown (mvT hZ (hw _ (List.mem_of_getElem? (i := 27) rfl))) (mvT hZ (hw _ (List.mem_of_getElem? (i := 28) rfl))) (notFace_of_selects (args := #[]) (mvT hZ (hw _ (List.mem_of_getElem? (i := 30) rfl)))) (mvT hZ (hw _ (List.mem_of_getElem? (i := 30) rfl))) (mvT hZ (hw _ (List.mem_of_getElem? (i := 29) rfl))) (by decide) (backOf (W := 0) (rm3 l Z a0 hw [] sy (0 : Int32) va clv (1 : Int32) (60 : Int32) (60 : Int32) fr cw h15 n0 Z15 Es Fv Fc Av Sv Nv hi0 ha0 (by decide) (by decide) Scw15 hcw Sfr15 hfr (by decide) (by decide)) hZ (hw _ (List.mem_of_getElem? (i := 31) rfl)) (hw _ (List.mem_of_getElem? (i := 23) rfl)) (by decide) (by decide)) q20a q20c (g := (mkF m 91 #[.val (.int p1), .val (.int p2), .val (.ref b3), .val (.ref w4), .val (.int o), .val (.ref sy), .val (.int (1 : Int32)), .unset, .unset, .unset] [(.int (0 : Int32)), (.ref sy)])) rfl (by rw [hml]; rfl) (Steps.refl _) (argsL := [(.int (0 : Int32))]) (rest := []) (lenOf pd_0_2 rfl) rfl (by show 2 * 0 + _ ≤ _; exact Nat.le_of_eq rfl) (hb hby at_91) (fun _ _ => ⟨rfl, e19, (by decide : 1 + 0 ≤ _), (by decide : 4 + 0 ≤ _)⟩)
  dsimp only [Pt.U, Pt.locs, Pt.cells, Pt.slots] at X20 l20 y20 z20 st20 hQ20
  subst l20 y20 z20
  obtain ⟨rfl, N20q, e20⟩ := hQ20
  have N20 := Fr.app N19 N20q
  obtain ⟨cq21, kq21, q21a, q21b, q21c⟩ := isOf hZ e20 (Es)
  obtain ⟨_, _, ⟨T21, L21, k21, n21⟩, -, X21, ⟨Lc21, hQ21, l21, y21, z21⟩, st21⟩ := X20.virtualBack hx (y := (⟨"java/lang/String", "length", "()I"⟩ : MethodName)) (z := (⟨"java/lang/String", "length", "()I"⟩ : MethodName)) hown (mvT hZ (hw _ (List.mem_of_getElem? (i := 52) rfl))) (mvT hZ (hw _ (List.mem_of_getElem? (i := 53) rfl))) (notFace_of_selects (args := #[]) (mvT hZ (hw _ (List.mem_of_getElem? (i := 55) rfl)))) (mvT hZ (hw _ (List.mem_of_getElem? (i := 55) rfl))) (mvT hZ (hw _ (List.mem_of_getElem? (i := 54) rfl))) (by decide) (backOf (W := 0) (rm8 l Z a0 hw [] sy va clv (1 : Int32) (1 : Int32) cw h15 n0 Z15 Fv Av Sv Nv Es Fc Scw15 hcw (by decide)) hZ (hw _ (List.mem_of_getElem? (i := 56) rfl)) (hw _ (List.mem_of_getElem? (i := 23) rfl)) (by decide) (by decide)) q21a q21c (g := (mkF m 108 #[.val (.int p1), .val (.int p2), .val (.ref b3), .val (.ref w4), .val (.int o), .val (.ref sy), .val (.int (1 : Int32)), .val (.int (0 : Int32)), .unset, .unset] [(.ref sy)])) rfl (by rw [hml]; rfl) (Steps.refl _) (argsL := []) (rest := []) (lenOf pd_0_6 rfl) rfl (by show 2 * 0 + _ ≤ _; exact Nat.le_of_eq rfl) (hb hby at_108) (fun _ _ => ⟨rfl, e20, (by decide : 1 + 0 ≤ _), (by decide : 4 + 0 ≤ _)⟩)
  dsimp only [Pt.U, Pt.locs, Pt.cells, Pt.slots] at X21 l21 y21 z21 st21 hQ21
  subst l21 y21 z21
  obtain ⟨rfl, N21q, e21⟩ := hQ21
  have N21 := Fr.app N20 N21q
  obtain ⟨cq22, kq22, q22a, q22b, q22c⟩ := isOf hZ e21 (Ew)
  obtain ⟨_, _, ⟨T22, L22, k22, n22⟩, -, X22, ⟨Lc22, hQ22, l22, y22, z22⟩, st22⟩ := X21.virtualBack hx (y := (⟨"com/example/balanza/balanza/logic/Comparison", "holds", "(I)Z"⟩ : MethodName)) (z := (⟨"com/example/balanza/balanza/logic/Comparison", "holds", "(I)Z"⟩ : MethodName)) hown (mvT hZ (hw _ (List.mem_of_getElem? (i := 62) rfl))) (mvT hZ (hw _ (List.mem_of_getElem? (i := 63) rfl))) (notFace_of_selects (args := #[]) (mvT hZ (hw _ (List.mem_of_getElem? (i := 65) rfl)))) (mvT hZ (hw _ (List.mem_of_getElem? (i := 65) rfl))) (mvT hZ (hw _ (List.mem_of_getElem? (i := 64) rfl))) (by decide) (backOf (W := 0) (rm10_0 l Z a0 hw [] w4 o xx h15 n0 Z15 Ew Fo (own_rx0 hxx)) hZ (hw _ (List.mem_of_getElem? (i := 66) rfl)) (hw _ (List.mem_of_getElem? (i := 3) rfl)) (by decide) (by decide)) q22a q22c (g := (mkF m 164 #[.val (.int p1), .val (.int p2), .val (.ref b3), .val (.ref w4), .val (.int o), .val (.ref sy), .val (.int (1 : Int32)), .val (.int (0 : Int32)), .val (.int (0 : Int32)), .val (.int xx)] [(.int o), (.ref w4)])) rfl (by rw [hml]; rfl) (Steps.refl _) (argsL := [(.int o)]) (rest := []) (lenOf pd_0_8 rfl) rfl (by show 2 * 0 + _ ≤ _; exact Nat.le_of_eq rfl) (hb hby at_164) (fun _ _ => ⟨rfl, e21, (by decide : 1 + 0 ≤ _), (by decide : 4 + 0 ≤ _)⟩)
  dsimp only [Pt.U, Pt.locs, Pt.cells, Pt.slots] at X22 l22 y22 z22 st22 hQ22
  subst l22 y22 z22
  obtain ⟨rfl, N22q, e22⟩ := hQ22
  have N22 := Fr.app N21 N22q
  obtain ⟨fs, hr, hrun, hended, hW, hsame⟩ := X22.leave (v := some (.int (1 : Int32))) (fun h => by rw [Bd.returns] at h; cases h)
  refine ⟨_, _, pre0 _ ?_, hrun, hended, _, _, rfl, ?_, ⟨_, rfl⟩, hW, hsame.mono (by decide) (by decide)⟩
  · show Steps p.tables e below (s₁.setTop (mkF m 0 #[.val (.int p1), .val (.int p2), .unset, .unset, .unset, .unset, .unset, .unset, .unset, .unset] [])) _
    refine XS.iconst X0.here hx rfl (hb hby at_0) ?_
    show Steps p.tables e below (s₁.setTop (mkF m 1 #[.val (.int p1), .val (.int p2), .unset, .unset, .unset, .unset, .unset, .unset, .unset, .unset] [(.int (4 : Int32))])) _
    refine st3 _ ?_
    show Steps p.tables e below (T3.setTop (mkF m 4 #[.val (.int p1), .val (.int p2), .unset, .unset, .unset, .unset, .unset, .unset, .unset, .unset] [(.ref b3)])) _
    refine XS.dup X3.here hx rfl (hb hby at_4) rfl rfl ?_
    show Steps p.tables e below (T3.setTop (mkF m 5 #[.val (.int p1), .val (.int p2), .unset, .unset, .unset, .unset, .unset, .unset, .unset, .unset] [(.ref b3), (.ref b3)])) _
    refine XS.iconst X3.here hx rfl (hb hby at_5) ?_
    show Steps p.tables e below (T3.setTop (mkF m 6 #[.val (.int p1), .val (.int p2), .unset, .unset, .unset, .unset, .unset, .unset, .unset, .unset] [(.int (0 : Int32)), (.ref b3), (.ref b3)])) _
    refine st5 _ ?_
    show Steps p.tables e below (T5.setTop (mkF m 9 #[.val (.int p1), .val (.int p2), .unset, .unset, .unset, .unset, .unset, .unset, .unset, .unset] [(.ref w4), (.int (0 : Int32)), (.ref b3), (.ref b3)])) _
    refine st6 _ ?_
    show Steps p.tables e below (T6.setTop (mkF m 10 #[.val (.int p1), .val (.int p2), .unset, .unset, .unset, .unset, .unset, .unset, .unset, .unset] [(.ref b3)])) _
    refine XS.dup X6.here hx rfl (hb hby at_10) rfl rfl ?_
    show Steps p.tables e below (T6.setTop (mkF m 11 #[.val (.int p1), .val (.int p2), .unset, .unset, .unset, .unset, .unset, .unset, .unset, .unset] [(.ref b3), (.ref b3)])) _
    refine XS.iconst X6.here hx rfl (hb hby at_11) ?_
    show Steps p.tables e below (T6.setTop (mkF m 12 #[.val (.int p1), .val (.int p2), .unset, .unset, .unset, .unset, .unset, .unset, .unset, .unset] [(.int (1 : Int32)), (.ref b3), (.ref b3)])) _
    refine st8 _ ?_
    show Steps p.tables e below (T8.setTop (mkF m 15 #[.val (.int p1), .val (.int p2), .unset, .unset, .unset, .unset, .unset, .unset, .unset, .unset] [(.ref w7), (.int (1 : Int32)), (.ref b3), (.ref b3)])) _
    refine st9 _ ?_
    show Steps p.tables e below (T9.setTop (mkF m 16 #[.val (.int p1), .val (.int p2), .unset, .unset, .unset, .unset, .unset, .unset, .unset, .unset] [(.ref b3)])) _
    refine XS.dup X9.here hx rfl (hb hby at_16) rfl rfl ?_
    show Steps p.tables e below (T9.setTop (mkF m 17 #[.val (.int p1), .val (.int p2), .unset, .unset, .unset, .unset, .unset, .unset, .unset, .unset] [(.ref b3), (.ref b3)])) _
    refine XS.iconst X9.here hx rfl (hb hby at_17) ?_
    show Steps p.tables e below (T9.setTop (mkF m 18 #[.val (.int p1), .val (.int p2), .unset, .unset, .unset, .unset, .unset, .unset, .unset, .unset] [(.int (2 : Int32)), (.ref b3), (.ref b3)])) _
    refine st11 _ ?_
    show Steps p.tables e below (T11.setTop (mkF m 21 #[.val (.int p1), .val (.int p2), .unset, .unset, .unset, .unset, .unset, .unset, .unset, .unset] [(.ref w10), (.int (2 : Int32)), (.ref b3), (.ref b3)])) _
    refine st12 _ ?_
    show Steps p.tables e below (T12.setTop (mkF m 22 #[.val (.int p1), .val (.int p2), .unset, .unset, .unset, .unset, .unset, .unset, .unset, .unset] [(.ref b3)])) _
    refine XS.dup X12.here hx rfl (hb hby at_22) rfl rfl ?_
    show Steps p.tables e below (T12.setTop (mkF m 23 #[.val (.int p1), .val (.int p2), .unset, .unset, .unset, .unset, .unset, .unset, .unset, .unset] [(.ref b3), (.ref b3)])) _
    refine XS.iconst X12.here hx rfl (hb hby at_23) ?_
    show Steps p.tables e below (T12.setTop (mkF m 24 #[.val (.int p1), .val (.int p2), .unset, .unset, .unset, .unset, .unset, .unset, .unset, .unset] [(.int (3 : Int32)), (.ref b3), (.ref b3)])) _
    refine st14 _ ?_
    show Steps p.tables e below (T14.setTop (mkF m 27 #[.val (.int p1), .val (.int p2), .unset, .unset, .unset, .unset, .unset, .unset, .unset, .unset] [(.ref w13), (.int (3 : Int32)), (.ref b3), (.ref b3)])) _
    refine st15 _ ?_
    show Steps p.tables e below (T15.setTop (mkF m 28 #[.val (.int p1), .val (.int p2), .unset, .unset, .unset, .unset, .unset, .unset, .unset, .unset] [(.ref b3)])) _
    refine XS.astoreN X15.here hx rfl (hb hby at_28) rfl rfl (l' := #[.val (.int p1), .val (.int p2), .val (.ref b3), .unset, .unset, .unset, .unset, .unset, .unset, .unset]) rfl ?_
    show Steps p.tables e below (T15.setTop (mkF m 29 #[.val (.int p1), .val (.int p2), .val (.ref b3), .unset, .unset, .unset, .unset, .unset, .unset, .unset] [])) _
    refine XS.aloadN X15.here hx rfl (hb hby at_29) rfl rfl ?_
    show Steps p.tables e below (T15.setTop (mkF m 30 #[.val (.int p1), .val (.int p2), .val (.ref b3), .unset, .unset, .unset, .unset, .unset, .unset, .unset] [(.ref b3)])) _
    refine XS.iloadN X15.here hx rfl (hb hby at_30) rfl ?_
    show Steps p.tables e below (T15.setTop (mkF m 31 #[.val (.int p1), .val (.int p2), .val (.ref b3), .unset, .unset, .unset, .unset, .unset, .unset, .unset] [(.int p1), (.ref b3)])) _
    refine XS.iconst X15.here hx rfl (hb hby at_31) ?_
    show Steps p.tables e below (T15.setTop (mkF m 32 #[.val (.int p1), .val (.int p2), .val (.ref b3), .unset, .unset, .unset, .unset, .unset, .unset, .unset] [(.int (3 : Int32)), (.int p1), (.ref b3)])) _
    refine XS.iand X15.here hx rfl (hb hby at_32) rfl ?_
    show Steps p.tables e below (T15.setTop (mkF m 33 #[.val (.int p1), .val (.int p2), .val (.ref b3), .unset, .unset, .unset, .unset, .unset, .unset, .unset] [(.int (p1 &&& (3 : Int32))), (.ref b3)])) _
    rw [hk]
    show Steps p.tables e below (T15.setTop (mkF m 33 #[.val (.int p1), .val (.int p2), .val (.ref b3), .unset, .unset, .unset, .unset, .unset, .unset, .unset] [(.int (0 : Int32)), (.ref b3)])) _
    refine X15.aaload hx (j := (0 : Int32)) (v := (.ref w4)) (by rw [e15]; exact Ar_b3.1) (State.isArrayOf_alike hZ.alike Ar_b3.2.1) rfl Ar_b3.2.2 hin33 hat33 (g := (mkF m 33 #[.val (.int p1), .val (.int p2), .val (.ref b3), .unset, .unset, .unset, .unset, .unset, .unset, .unset] [(.int (0 : Int32)), (.ref b3)])) rfl rfl (hb hby at_33) _ ?_
    show Steps p.tables e below (T15.setTop (mkF m 34 #[.val (.int p1), .val (.int p2), .val (.ref b3), .unset, .unset, .unset, .unset, .unset, .unset, .unset] [(.ref w4)])) _
    refine XS.astoreN X15.here hx rfl (hb hby at_34) rfl rfl (l' := #[.val (.int p1), .val (.int p2), .val (.ref b3), .val (.ref w4), .unset, .unset, .unset, .unset, .unset, .unset]) rfl ?_
    show Steps p.tables e below (T15.setTop (mkF m 35 #[.val (.int p1), .val (.int p2), .val (.ref b3), .val (.ref w4), .unset, .unset, .unset, .unset, .unset, .unset] [])) _
    refine own_pB _ _ _ _ _ _ _ _ _ _ o X15 hx hZ hw hby hml hown e15 One.u ho _ ?_
    show Steps p.tables e below (T15.setTop (mkF m 54 #[.val (.int p1), .val (.int p2), .val (.ref b3), .val (.ref w4), .val (.int o), .unset, .unset, .unset, .unset, .unset] [])) _
    refine XS.aloadN X15.here hx rfl (hb hby at_54) rfl rfl ?_
    show Steps p.tables e below (T15.setTop (mkF m 55 #[.val (.int p1), .val (.int p2), .val (.ref b3), .val (.ref w4), .val (.int o), .unset, .unset, .unset, .unset, .unset] [(.ref w4)])) _
    refine st17.trans ?_
    show Steps p.tables e below (T17.setTop (mkF m 58 #[.val (.int p1), .val (.int p2), .val (.ref b3), .val (.ref w4), .val (.int o), .unset, .unset, .unset, .unset, .unset] [(.ref sy)])) _
    refine XS.astore X17.here hx rfl (hb hby at_58) rfl rfl (l' := #[.val (.int p1), .val (.int p2), .val (.ref b3), .val (.ref w4), .val (.int o), .val (.ref sy), .unset, .unset, .unset, .unset]) rfl ?_
    show Steps p.tables e below (T17.setTop (mkF m 60 #[.val (.int p1), .val (.int p2), .val (.ref b3), .val (.ref w4), .val (.int o), .val (.ref sy), .unset, .unset, .unset, .unset] [])) _
    refine XS.aload X17.here hx rfl (hb hby at_60) rfl rfl ?_
    show Steps p.tables e below (T17.setTop (mkF m 62 #[.val (.int p1), .val (.int p2), .val (.ref b3), .val (.ref w4), .val (.int o), .val (.ref sy), .unset, .unset, .unset, .unset] [(.ref sy)])) _
    refine st18.trans ?_
    show Steps p.tables e below (T18.setTop (mkF m 65 #[.val (.int p1), .val (.int p2), .val (.ref b3), .val (.ref w4), .val (.int o), .val (.ref sy), .unset, .unset, .unset, .unset] [(.int (0 : Int32))])) _
    refine XS.ifYes X18.here hx rfl (pc0 := 65) (pc' := 70) rfl (hb hby at_65) rfl ((if0 _ _).trans (teq (rfl : (0 : Int32) = (0 : Int32))).1) (by decide) (by decide) ?_
    show Steps p.tables e below (T18.setTop (mkF m 70 #[.val (.int p1), .val (.int p2), .val (.ref b3), .val (.ref w4), .val (.int o), .val (.ref sy), .unset, .unset, .unset, .unset] [])) _
    refine XS.aload X18.here hx rfl (hb hby at_70) rfl rfl ?_
    show Steps p.tables e below (T18.setTop (mkF m 72 #[.val (.int p1), .val (.int p2), .val (.ref b3), .val (.ref w4), .val (.int o), .val (.ref sy), .unset, .unset, .unset, .unset] [(.ref sy)])) _
    refine XS.iconst X18.here hx rfl (hb hby at_72) ?_
    show Steps p.tables e below (T18.setTop (mkF m 73 #[.val (.int p1), .val (.int p2), .val (.ref b3), .val (.ref w4), .val (.int o), .val (.ref sy), .unset, .unset, .unset, .unset] [(.int (0 : Int32)), (.ref sy)])) _
    refine st19.trans ?_
    show Steps p.tables e below (T19.setTop (mkF m 76 #[.val (.int p1), .val (.int p2), .val (.ref b3), .val (.ref w4), .val (.int o), .val (.ref sy), .unset, .unset, .unset, .unset] [(.int (60 : Int32))])) _
    refine XS.bipush X19.here hx rfl (hb hby at_76) ?_
    show Steps p.tables e below (T19.setTop (mkF m 78 #[.val (.int p1), .val (.int p2), .val (.ref b3), .val (.ref w4), .val (.int o), .val (.ref sy), .unset, .unset, .unset, .unset] [(.int (60 : Int32)), (.int (60 : Int32))])) _
    refine XS.icmpNo X19.here hx rfl (hb hby at_78) rfl (teq (rfl : (60 : Int32) = (60 : Int32))).2 ?_
    show Steps p.tables e below (T19.setTop (mkF m 81 #[.val (.int p1), .val (.int p2), .val (.ref b3), .val (.ref w4), .val (.int o), .val (.ref sy), .unset, .unset, .unset, .unset] [])) _
    refine XS.iconst X19.here hx rfl (hb hby at_81) ?_
    show Steps p.tables e below (T19.setTop (mkF m 82 #[.val (.int p1), .val (.int p2), .val (.ref b3), .val (.ref w4), .val (.int o), .val (.ref sy), .unset, .unset, .unset, .unset] [(.int (1 : Int32))])) _
    refine XS.goto X19.here hx rfl (pc0 := 82) (pc' := 86) rfl (hb hby at_82) (by decide) (by decide) ?_
    show Steps p.tables e below (T19.setTop (mkF m 86 #[.val (.int p1), .val (.int p2), .val (.ref b3), .val (.ref w4), .val (.int o), .val (.ref sy), .unset, .unset, .unset, .unset] [(.int (1 : Int32))])) _
    refine XS.istore X19.here hx rfl (hb hby at_86) rfl (l' := #[.val (.int p1), .val (.int p2), .val (.ref b3), .val (.ref w4), .val (.int o), .val (.ref sy), .val (.int (1 : Int32)), .unset, .unset, .unset]) rfl ?_
    show Steps p.tables e below (T19.setTop (mkF m 88 #[.val (.int p1), .val (.int p2), .val (.ref b3), .val (.ref w4), .val (.int o), .val (.ref sy), .val (.int (1 : Int32)), .unset, .unset, .unset] [])) _
    refine XS.aload X19.here hx rfl (hb hby at_88) rfl rfl ?_
    show Steps p.tables e below (T19.setTop (mkF m 90 #[.val (.int p1), .val (.int p2), .val (.ref b3), .val (.ref w4), .val (.int o), .val (.ref sy), .val (.int (1 : Int32)), .unset, .unset, .unset] [(.ref sy)])) _
    refine XS.iconst X19.here hx rfl (hb hby at_90) ?_
    show Steps p.tables e below (T19.setTop (mkF m 91 #[.val (.int p1), .val (.int p2), .val (.ref b3), .val (.ref w4), .val (.int o), .val (.ref sy), .val (.int (1 : Int32)), .unset, .unset, .unset] [(.int (0 : Int32)), (.ref sy)])) _
    refine st20.trans ?_
    show Steps p.tables e below (T20.setTop (mkF m 94 #[.val (.int p1), .val (.int p2), .val (.ref b3), .val (.ref w4), .val (.int o), .val (.ref sy), .val (.int (1 : Int32)), .unset, .unset, .unset] [(.int (60 : Int32))])) _
    refine XS.bipush X20.here hx rfl (hb hby at_94) ?_
    show Steps p.tables e below (T20.setTop (mkF m 96 #[.val (.int p1), .val (.int p2), .val (.ref b3), .val (.ref w4), .val (.int o), .val (.ref sy), .val (.int (1 : Int32)), .unset, .unset, .unset] [(.int (62 : Int32)), (.int (60 : Int32))])) _
    refine XS.icmpYes X20.here hx rfl (pc0 := 96) (pc' := 103) rfl (hb hby at_96) rfl (feq (by decide : ¬ ((60 : Int32) = (62 : Int32)))).2 (by decide) (by decide) ?_
    show Steps p.tables e below (T20.setTop (mkF m 103 #[.val (.int p1), .val (.int p2), .val (.ref b3), .val (.ref w4), .val (.int o), .val (.ref sy), .val (.int (1 : Int32)), .unset, .unset, .unset] [])) _
    refine XS.iconst X20.here hx rfl (hb hby at_103) ?_
    show Steps p.tables e below (T20.setTop (mkF m 104 #[.val (.int p1), .val (.int p2), .val (.ref b3), .val (.ref w4), .val (.int o), .val (.ref sy), .val (.int (1 : Int32)), .unset, .unset, .unset] [(.int (0 : Int32))])) _
    refine XS.istore X20.here hx rfl (hb hby at_104) rfl (l' := #[.val (.int p1), .val (.int p2), .val (.ref b3), .val (.ref w4), .val (.int o), .val (.ref sy), .val (.int (1 : Int32)), .val (.int (0 : Int32)), .unset, .unset]) rfl ?_
    show Steps p.tables e below (T20.setTop (mkF m 106 #[.val (.int p1), .val (.int p2), .val (.ref b3), .val (.ref w4), .val (.int o), .val (.ref sy), .val (.int (1 : Int32)), .val (.int (0 : Int32)), .unset, .unset] [])) _
    refine XS.aload X20.here hx rfl (hb hby at_106) rfl rfl ?_
    show Steps p.tables e below (T20.setTop (mkF m 108 #[.val (.int p1), .val (.int p2), .val (.ref b3), .val (.ref w4), .val (.int o), .val (.ref sy), .val (.int (1 : Int32)), .val (.int (0 : Int32)), .unset, .unset] [(.ref sy)])) _
    refine st21.trans ?_
    show Steps p.tables e below (T21.setTop (mkF m 111 #[.val (.int p1), .val (.int p2), .val (.ref b3), .val (.ref w4), .val (.int o), .val (.ref sy), .val (.int (1 : Int32)), .val (.int (0 : Int32)), .unset, .unset] [(.int (1 : Int32))])) _
    refine XS.iconst X21.here hx rfl (hb hby at_111) ?_
    show Steps p.tables e below (T21.setTop (mkF m 112 #[.val (.int p1), .val (.int p2), .val (.ref b3), .val (.ref w4), .val (.int o), .val (.ref sy), .val (.int (1 : Int32)), .val (.int (0 : Int32)), .unset, .unset] [(.int (2 : Int32)), (.int (1 : Int32))])) _
    refine XS.icmpYes X21.here hx rfl (pc0 := 112) (pc' := 130) rfl (hb hby at_112) rfl (feq (by decide : ¬ ((1 : Int32) = (2 : Int32)))).2 (by decide) (by decide) ?_
    show Steps p.tables e below (T21.setTop (mkF m 130 #[.val (.int p1), .val (.int p2), .val (.ref b3), .val (.ref w4), .val (.int o), .val (.ref sy), .val (.int (1 : Int32)), .val (.int (0 : Int32)), .unset, .unset] [])) _
    refine XS.iconst X21.here hx rfl (hb hby at_130) ?_
    show Steps p.tables e below (T21.setTop (mkF m 131 #[.val (.int p1), .val (.int p2), .val (.ref b3), .val (.ref w4), .val (.int o), .val (.ref sy), .val (.int (1 : Int32)), .val (.int (0 : Int32)), .unset, .unset] [(.int (0 : Int32))])) _
    refine XS.istore X21.here hx rfl (hb hby at_131) rfl (l' := #[.val (.int p1), .val (.int p2), .val (.ref b3), .val (.ref w4), .val (.int o), .val (.ref sy), .val (.int (1 : Int32)), .val (.int (0 : Int32)), .val (.int (0 : Int32)), .unset]) rfl ?_
    show Steps p.tables e below (T21.setTop (mkF m 133 #[.val (.int p1), .val (.int p2), .val (.ref b3), .val (.ref w4), .val (.int o), .val (.ref sy), .val (.int (1 : Int32)), .val (.int (0 : Int32)), .val (.int (0 : Int32)), .unset] [])) _
    refine own_pD _ _ _ _ _ _ _ _ _ _ xx X21 hx hZ hw hby hml hown e21 One.u hxx _ ?_
    show Steps p.tables e below (T21.setTop (mkF m 161 #[.val (.int p1), .val (.int p2), .val (.ref b3), .val (.ref w4), .val (.int o), .val (.ref sy), .val (.int (1 : Int32)), .val (.int (0 : Int32)), .val (.int (0 : Int32)), .val (.int xx)] [])) _
    refine XS.aloadN X21.here hx rfl (hb hby at_161) rfl rfl ?_
    show Steps p.tables e below (T21.setTop (mkF m 162 #[.val (.int p1), .val (.int p2), .val (.ref b3), .val (.ref w4), .val (.int o), .val (.ref sy), .val (.int (1 : Int32)), .val (.int (0 : Int32)), .val (.int (0 : Int32)), .val (.int xx)] [(.ref w4)])) _
    refine XS.iload X21.here hx rfl (hb hby at_162) rfl ?_
    show Steps p.tables e below (T21.setTop (mkF m 164 #[.val (.int p1), .val (.int p2), .val (.ref b3), .val (.ref w4), .val (.int o), .val (.ref sy), .val (.int (1 : Int32)), .val (.int (0 : Int32)), .val (.int (0 : Int32)), .val (.int xx)] [(.int o), (.ref w4)])) _
    refine st22.trans ?_
    show Steps p.tables e below (T22.setTop (mkF m 167 #[.val (.int p1), .val (.int p2), .val (.ref b3), .val (.ref w4), .val (.int o), .val (.ref sy), .val (.int (1 : Int32)), .val (.int (0 : Int32)), .val (.int (0 : Int32)), .val (.int xx)] [(.int xx)])) _
    refine XS.iload X22.here hx rfl (hb hby at_167) rfl ?_
    show Steps p.tables e below (T22.setTop (mkF m 169 #[.val (.int p1), .val (.int p2), .val (.ref b3), .val (.ref w4), .val (.int o), .val (.ref sy), .val (.int (1 : Int32)), .val (.int (0 : Int32)), .val (.int (0 : Int32)), .val (.int xx)] [(.int xx), (.int xx)])) _
    refine XS.icmpNo X22.here hx rfl (hb hby at_169) rfl (teq (rfl : xx = xx)).2 ?_
    show Steps p.tables e below (T22.setTop (mkF m 172 #[.val (.int p1), .val (.int p2), .val (.ref b3), .val (.ref w4), .val (.int o), .val (.ref sy), .val (.int (1 : Int32)), .val (.int (0 : Int32)), .val (.int (0 : Int32)), .val (.int xx)] [])) _
    refine XS.iconst X22.here hx rfl (hb hby at_172) ?_
    show Steps p.tables e below (T22.setTop (mkF m 173 #[.val (.int p1), .val (.int p2), .val (.ref b3), .val (.ref w4), .val (.int o), .val (.ref sy), .val (.int (1 : Int32)), .val (.int (0 : Int32)), .val (.int (0 : Int32)), .val (.int xx)] [(.int (1 : Int32))])) _
    refine XS.goto X22.here hx rfl (pc0 := 173) (pc' := 177) rfl (hb hby at_173) (by decide) (by decide) ?_
    show Steps p.tables e below (T22.setTop (mkF m 177 #[.val (.int p1), .val (.int p2), .val (.ref b3), .val (.ref w4), .val (.int o), .val (.ref sy), .val (.int (1 : Int32)), .val (.int (0 : Int32)), .val (.int (0 : Int32)), .val (.int xx)] [(.int (1 : Int32))])) _
    exact retN X22 hx (t := .boolean) Bd.returns (by simp) (hb hby at_177) hr
  · show Q0 Z p1 p2 h0 n0 _ T22.heap _
    exact ⟨rfl, N22⟩

set_option maxRecDepth 65536 in
set_option maxHeartbeats 40000000 in
theorem rm0_1 (l : Launch) (Z : State) (a0 : Array Value) (hw : ∀ d ∈ tables_1, d.before a0 Z = true) (ws : List Jvm.Cond) (p1 : Int32) (p2 : Int32) (w4 w7 w10 w13 : Addr) (h0 : Heap) (n0 : Nat) (Z0 : n0 ≤ h0.size) (S_LESS : Sta Z h0 "com/example/balanza/balanza/logic/Comparison" "LESS" "Lcom/example/balanza/balanza/logic/Comparison;" (.ref w4)) (S_AT_MOST : Sta Z h0 "com/example/balanza/balanza/logic/Comparison" "AT_MOST" "Lcom/example/balanza/balanza/logic/Comparison;" (.ref w7)) (S_GREATER : Sta Z h0 "com/example/balanza/balanza/logic/Comparison" "GREATER" "Lcom/example/balanza/balanza/logic/Comparison;" (.ref w10)) (S_AT_LEAST : Sta Z h0 "com/example/balanza/balanza/logic/Comparison" "AT_LEAST" "Lcom/example/balanza/balanza/logic/Comparison;" (.ref w13)) (E_0 : Exa Z h0 w4 "com/example/balanza/balanza/logic/Comparison") (E_1 : Exa Z h0 w7 "com/example/balanza/balanza/logic/Comparison") (E_2 : Exa Z h0 w10 "com/example/balanza/balanza/logic/Comparison") (E_3 : Exa Z h0 w13 "com/example/balanza/balanza/logic/Comparison") (cw : Int32) (Scw : Sta Z h0 "java/lang/String" "COMPACT_STRINGS" "Z" (.int cw)) (hcw : ¬ (cw = (0 : Int32))) (fr : Value) (Sfr : Sta Z h0 "jdk/internal/util/Preconditions" "SIOOBE_FORMATTER" "Ljava/util/function/BiFunction;" fr) (hfr : fr.isRef = true) (CX : own_C Z h0 w7 (1 : Int32) (2 : Int32) [(.int (60 : Int32)), (.int (61 : Int32))]) (hk : (p1 &&& (3 : Int32)) = (1 : Int32)) :
    MetFree l x (head1 (Jvm.Cond.code x code maxLocals ret :: ws) room_1) (fun a U => a = #[(.int p1), (.int p2)] ∧ Z.Warmed39 U.vm ∧ U.heap = h0) (fun _ _ _ _ _ => True) (fun _ U o U' => ∃ v L, o = .returned v ∧ Q0 Z p1 p2 h0 n0 v U'.heap L ∧ FrameEnd U o U' L room_1.cells room_1.slots) := by
  refine MetFree.of_bodySF (plainFor_of_name pn_0) hisR ?_
  intro p e s m args below meth c s₁ Bd hml0 hP hK
  obtain ⟨rfl, hZ, hh⟩ := hP
  have hx := Bd.exec
  have hby := Bd.bytes
  have hml : c.maxLocals = 10 := hml0
  have hown : s.vm.findClass "com/example/balanza/balanza/logic/ComparisonHoldsPinLaw" = some m.cls := findClass_of_methodNamed Bd.named
  have hnm := (name_of_methodNamed Bd.named Bd.method).1
  have X0 : Stand p l e room_1 s m #[(.int p1), (.int p2)] below meth c s₁ [] 0 0 := Stand.of_body Bd
  have e0 : s₁.heap = h0 := by rw [← hh, Bd.state]; rfl
  have N0 := Fr.nil n0
  have pre0 : ∀ t, Steps p.tables e below (s₁.setTop (mkF m 0 #[.val (.int p1), .val (.int p2), .unset, .unset, .unset, .unset, .unset, .unset, .unset, .unset] [])) t → Steps p.tables e below (s₁.setTop (entryFrame m #[(.int p1), (.int p2)] maxLocals)) t := fun t k => castTop (ef_0 m p1 p2) k
  obtain ⟨o, ho⟩ := own_o_all p1 p2
  obtain ⟨xx, hxx⟩ := own_x_all (1 : Int32) (0 : Int32) (1 : Int32) o
  obtain ⟨T3, h3, k3, X3, e3, E3, A3, O3, st3⟩ := newR X0 hx hZ hown (hw _ (List.mem_of_getElem? (i := 0) rfl)) (hw _ (List.mem_of_getElem? (i := 1) rfl)) e0 (g := (mkF m 1 #[.val (.int p1), .val (.int p2), .unset, .unset, .unset, .unset, .unset, .unset, .unset, .unset] [(.int (4 : Int32))])) rfl (hb hby at_1) rfl (by decide) (cap := 4) (by decide) (by decide) (by decide) (by decide)
  obtain ⟨b3, g3⟩ : ∃ z, z = h0.size := ⟨_, rfl⟩
  rw [← g3] at A3 st3
  have V_b3 : Arv Z h3 b3 k3 (.object "com/example/balanza/balanza/logic/Comparison") (4 : Int32) [.null, .null, .null, .null] .null := (Arv.new A3 (by decide)).pad (pad_rep [] .null 4)
  have g_b3 : n0 ≤ b3 := Nat.le_trans Z0 (Nat.le_of_eq g3.symm)
  have sz_b3 : h0.size ≤ b3 := (Nat.le_trans (Keep.refl h0 []).1 (Nat.le_of_eq g3.symm))
  have K3 : Keep h0 h3 [] := (Keep.refl h0 []).ext E3
  obtain ⟨T5, X5, e5, st5⟩ := getS2 X3 hx hZ hown (host := "") (Or.inl (hw _ (List.mem_of_getElem? (i := 2) rfl))) Via.refl e3 (S_LESS.ext E3) (g := (mkF m 6 #[.val (.int p1), .val (.int p2), .unset, .unset, .unset, .unset, .unset, .unset, .unset, .unset] [(.int (0 : Int32)), (.ref b3), (.ref b3)])) rfl (hb hby at_6)
  obtain ⟨cl_0, Ar_b3, q_b3, S_b3, N_b3, H_b3, G_b3⟩ := V_b3
  have hin9 : ¬ ((0 : Int32) < 0 ∨ cl_0.slots.size ≤ ((0 : Int32)).toNatClampNeg) := inb_of S_b3 ⟨by decide, by decide⟩
  have Sto9 := Sto.ofV Ar_b3 q_b3 O3 (Ins.self (E_0.ext E3))
  obtain ⟨T6, h6, X6, e6, W6, st6⟩ := stR X5 hx hZ e5 Ar_b3 (j := (0 : Int32)) hin9 rfl Sto9 (g := (mkF m 9 #[.val (.int p1), .val (.int p2), .unset, .unset, .unset, .unset, .unset, .unset, .unset, .unset] [(.ref w4), (.int (0 : Int32)), (.ref b3), (.ref b3)])) rfl rfl (hb hby at_9)
  have V_b3_6 := Arv.set Ar_b3 q_b3 S_b3 N_b3 H_b3 G_b3 rfl W6 0 rfl (Nat.le_of_ble_eq_true rfl)
  have N6 := Fr.snoc X6 N0 g_b3
  have K6 : Keep h0 h6 [] := K3.wr W6 (Or.inr sz_b3)
  obtain ⟨T8, X8, e8, st8⟩ := getS2 X6 hx hZ hown (host := "") (Or.inl (hw _ (List.mem_of_getElem? (i := 6) rfl))) Via.refl e6 ((S_AT_MOST.ext E3).wr W6) (g := (mkF m 12 #[.val (.int p1), .val (.int p2), .unset, .unset, .unset, .unset, .unset, .unset, .unset, .unset] [(.int (1 : Int32)), (.ref b3), (.ref b3)])) rfl (hb hby at_12)
  obtain ⟨cl_1, Ar_b3, q_b3, S_b3, N_b3, H_b3, G_b3⟩ := V_b3_6
  have hin15 : ¬ ((1 : Int32) < 0 ∨ cl_1.slots.size ≤ ((1 : Int32)).toNatClampNeg) := inb_of S_b3 ⟨by decide, by decide⟩
  have Sto15 := Sto.ofV Ar_b3 q_b3 O3 (Ins.self ((E_1.ext E3).wr W6))
  obtain ⟨T9, h9, X9, e9, W9, st9⟩ := stR X8 hx hZ e8 Ar_b3 (j := (1 : Int32)) hin15 rfl Sto15 (g := (mkF m 15 #[.val (.int p1), .val (.int p2), .unset, .unset, .unset, .unset, .unset, .unset, .unset, .unset] [(.ref w7), (.int (1 : Int32)), (.ref b3), (.ref b3)])) rfl rfl (hb hby at_15)
  have V_b3_9 := Arv.set Ar_b3 q_b3 S_b3 N_b3 H_b3 G_b3 rfl W9 1 rfl (Nat.le_of_ble_eq_true rfl)
  have N9 := Fr.snoc X9 N6 g_b3
  have K9 : Keep h0 h9 [] := K6.wr W9 (Or.inr sz_b3)
  obtain ⟨T11, X11, e11, st11⟩ := getS2 X9 hx hZ hown (host := "") (Or.inl (hw _ (List.mem_of_getElem? (i := 8) rfl))) Via.refl e9 (((S_GREATER.ext E3).wr W6).wr W9) (g := (mkF m 18 #[.val (.int p1), .val (.int p2), .unset, .unset, .unset, .unset, .unset, .unset, .unset, .unset] [(.int (2 : Int32)), (.ref b3), (.ref b3)])) rfl (hb hby at_18)
  obtain ⟨cl_2, Ar_b3, q_b3, S_b3, N_b3, H_b3, G_b3⟩ := V_b3_9
  have hin21 : ¬ ((2 : Int32) < 0 ∨ cl_2.slots.size ≤ ((2 : Int32)).toNatClampNeg) := inb_of S_b3 ⟨by decide, by decide⟩
  have Sto21 := Sto.ofV Ar_b3 q_b3 O3 (Ins.self (((E_2.ext E3).wr W6).wr W9))
  obtain ⟨T12, h12, X12, e12, W12, st12⟩ := stR X11 hx hZ e11 Ar_b3 (j := (2 : Int32)) hin21 rfl Sto21 (g := (mkF m 21 #[.val (.int p1), .val (.int p2), .unset, .unset, .unset, .unset, .unset, .unset, .unset, .unset] [(.ref w10), (.int (2 : Int32)), (.ref b3), (.ref b3)])) rfl rfl (hb hby at_21)
  have V_b3_12 := Arv.set Ar_b3 q_b3 S_b3 N_b3 H_b3 G_b3 rfl W12 2 rfl (Nat.le_of_ble_eq_true rfl)
  have N12 := Fr.snoc X12 N9 g_b3
  have K12 : Keep h0 h12 [] := K9.wr W12 (Or.inr sz_b3)
  obtain ⟨T14, X14, e14, st14⟩ := getS2 X12 hx hZ hown (host := "") (Or.inl (hw _ (List.mem_of_getElem? (i := 10) rfl))) Via.refl e12 ((((S_AT_LEAST.ext E3).wr W6).wr W9).wr W12) (g := (mkF m 24 #[.val (.int p1), .val (.int p2), .unset, .unset, .unset, .unset, .unset, .unset, .unset, .unset] [(.int (3 : Int32)), (.ref b3), (.ref b3)])) rfl (hb hby at_24)
  obtain ⟨cl_3, Ar_b3, q_b3, S_b3, N_b3, H_b3, G_b3⟩ := V_b3_12
  have hin27 : ¬ ((3 : Int32) < 0 ∨ cl_3.slots.size ≤ ((3 : Int32)).toNatClampNeg) := inb_of S_b3 ⟨by decide, by decide⟩
  have Sto27 := Sto.ofV Ar_b3 q_b3 O3 (Ins.self ((((E_3.ext E3).wr W6).wr W9).wr W12))
  obtain ⟨T15, h15, X15, e15, W15, st15⟩ := stR X14 hx hZ e14 Ar_b3 (j := (3 : Int32)) hin27 rfl Sto27 (g := (mkF m 27 #[.val (.int p1), .val (.int p2), .unset, .unset, .unset, .unset, .unset, .unset, .unset, .unset] [(.ref w13), (.int (3 : Int32)), (.ref b3), (.ref b3)])) rfl rfl (hb hby at_27)
  have V_b3_15 := Arv.set Ar_b3 q_b3 S_b3 N_b3 H_b3 G_b3 rfl W15 3 rfl (Nat.le_of_ble_eq_true rfl)
  have N15 := Fr.snoc X15 N12 g_b3
  have K15 : Keep h0 h15 [] := K12.wr W15 (Or.inr sz_b3)
  have V15 : Arv Z h15 b3 k3 (.object "com/example/balanza/balanza/logic/Comparison") (4 : Int32) [(.ref w4), (.ref w7), (.ref w10), (.ref w13)] .null := V_b3_15
  obtain ⟨cl_9, Ar_b3, q_b3, S_b3, N_b3, H_b3, G_b3⟩ := V15
  have hin33 : ¬ ((1 : Int32) < 0 ∨ cl_9.slots.size ≤ ((1 : Int32)).toNatClampNeg) := inb_of S_b3 ⟨by decide, by decide⟩
  have hat33 : cl_9.slots[((1 : Int32)).toNatClampNeg]? = some (.ref w7) := H_b3.at hin33 rfl
  have Z15 : n0 ≤ h15.size := Nat.le_trans Z0 K15.1
  have Scw15 := ((((Scw.ext E3).wr W6).wr W9).wr W12).wr W15
  have Sfr15 := ((((Sfr.ext E3).wr W6).wr W9).wr W12).wr W15
  obtain ⟨Ew, Fo, sy, va, kv, Fs, Es, Fv, Fc, Vv⟩ := CX.keep K15
  obtain ⟨clv, Av, qv, Sv, Nv, Hv, Gv⟩ := Vv
  have hi0 : ¬ ((0 : Int32) < 0 ∨ clv.slots.size ≤ ((0 : Int32)).toNatClampNeg) := inb_of Sv ⟨by decide, by decide⟩
  have ha0 : clv.slots[((0 : Int32)).toNatClampNeg]? = some (.int (60 : Int32)) := Hv.at hi0 rfl
  have hi1 : ¬ ((1 : Int32) < 0 ∨ clv.slots.size ≤ ((1 : Int32)).toNatClampNeg) := inb_of Sv ⟨by decide, by decide⟩
  have ha1 : clv.slots[((1 : Int32)).toNatClampNeg]? = some (.int (61 : Int32)) := Hv.at hi1 rfl
  obtain ⟨cq17, kq17, q17a, q17b, q17c⟩ := isOf hZ e15 (Ew)
  obtain ⟨_, _, ⟨T17, L17, k17, n17⟩, -, X17, ⟨Lc17, hQ17, l17, y17, z17⟩, st17⟩ := X15.virtualBack hx (y := (⟨"com/example/balanza/balanza/logic/Comparison", "symbol", "()Ljava/lang/String;"⟩ : MethodName)) (z := (⟨"com/example/balanza/balanza/logic/Comparison", "symbol", "()Ljava/lang/String;"⟩ : MethodName)) hown (mvT hZ (hw _ (List.mem_of_getElem? (i := 12) rfl))) (mvT hZ (hw _ (List.mem_of_getElem? (i := 13) rfl))) (notFace_of_selects (args := #[]) (mvT hZ (hw _ (List.mem_of_getElem? (i := 15) rfl)))) (mvT hZ (hw _ (List.mem_of_getElem? (i := 15) rfl))) (mvT hZ (hw _ (List.mem_of_getElem? (i := 14) rfl))) (by decide) (backOf (W := 0) (rm1 l Z a0 hw [] w7 sy h15 n0 Z15 Fs) hZ (hw _ (List.mem_of_getElem? (i := 16) rfl)) (hw _ (List.mem_of_getElem? (i := 3) rfl)) (by decide) (by decide)) q17a q17c (g := (mkF m 55 #[.val (.int p1), .val (.int p2), .val (.ref b3), .val (.ref w7), .val (.int o), .unset, .unset, .unset, .unset, .unset] [(.ref w7)])) rfl (by rw [hml]; rfl) (Steps.refl _) (argsL := []) (rest := []) (lenOf pd_0_0 rfl) rfl (by show 2 * 0 + _ ≤ _; exact Nat.le_of_eq rfl) (hb hby at_55) (fun _ _ => ⟨rfl, e15, (by decide : 1 + 0 ≤ _), (by decide : 4 + 0 ≤ _)⟩)
  dsimp only [Pt.U, Pt.locs, Pt.cells, Pt.slots] at X17 l17 y17 z17 st17 hQ17
  subst l17 y17 z17
  obtain ⟨rfl, N17q, e17⟩ := hQ17
  have N17 := Fr.app N15 N17q
  obtain ⟨cq18, kq18, q18a, q18b, q18c⟩ := isOf hZ e17 (Es)
  obtain ⟨_, _, ⟨T18, L18, k18, n18⟩, -, X18, ⟨Lc18, hQ18, l18, y18, z18⟩, st18⟩ := X17.virtualBack hx (y := (⟨"java/lang/String", "isEmpty", "()Z"⟩ : MethodName)) (z := (⟨"java/lang/String", "isEmpty", "()Z"⟩ : MethodName)) hown (mvT hZ (hw _ (List.mem_of_getElem? (i := 19) rfl))) (mvT hZ (hw _ (List.mem_of_getElem? (i := 20) rfl))) (notFace_of_selects (args := #[]) (mvT hZ (hw _ (List.mem_of_getElem? (i := 22) rfl)))) (mvT hZ (hw _ (List.mem_of_getElem? (i := 22) rfl))) (mvT hZ (hw _ (List.mem_of_getElem? (i := 21) rfl))) (by decide) (backOf (W := 0) (rm2 l Z a0 hw [] sy va clv (2 : Int32) h15 n0 Z15 Fv Av Sv Nv (by decide)) hZ (hw _ (List.mem_of_getElem? (i := 24) rfl)) (hw _ (List.mem_of_getElem? (i := 23) rfl)) (by decide) (by decide)) q18a q18c (g := (mkF m 62 #[.val (.int p1), .val (.int p2), .val (.ref b3), .val (.ref w7), .val (.int o), .val (.ref sy), .unset, .unset, .unset, .unset] [(.ref sy)])) rfl (by rw [hml]; rfl) (Steps.refl _) (argsL := []) (rest := []) (lenOf pd_0_1 rfl) rfl (by show 2 * 0 + _ ≤ _; exact Nat.le_of_eq rfl) (hb hby at_62) (fun _ _ => ⟨rfl, e17, (by decide : 1 + 0 ≤ _), (by decide : 4 + 0 ≤ _)⟩)
  dsimp only [Pt.U, Pt.locs, Pt.cells, Pt.slots] at X18 l18 y18 z18 st18 hQ18
  subst l18 y18 z18
  obtain ⟨rfl, N18q, e18⟩ := hQ18
  have N18 := Fr.app N17 N18q
  obtain ⟨cq19, kq19, q19a, q19b, q19c⟩ := isOf hZ e18 (Es)
  obtain ⟨_, _, ⟨T19, L19, k19, n19⟩, -, X19, ⟨Lc19, hQ19, l19, y19, z19⟩, st19⟩ := X18.virtualBack hx (y := (⟨"java/lang/String", "charAt", "(I)C"⟩ : MethodName)) (z := (⟨"java/lang/String", "charAt", "(I)C"⟩ : MethodName)) hown (mvT hZ (hw _ (List.mem_of_getElem? (i := 27) rfl))) (mvT hZ (hw _ (List.mem_of_getElem? (i := 28) rfl))) (notFace_of_selects (args := #[]) (mvT hZ (hw _ (List.mem_of_getElem? (i := 30) rfl)))) (mvT hZ (hw _ (List.mem_of_getElem? (i := 30) rfl))) (mvT hZ (hw _ (List.mem_of_getElem? (i := 29) rfl))) (by decide) (backOf (W := 0) (rm3 l Z a0 hw [] sy (0 : Int32) va clv (2 : Int32) (60 : Int32) (60 : Int32) fr cw h15 n0 Z15 Es Fv Fc Av Sv Nv hi0 ha0 (by decide) (by decide) Scw15 hcw Sfr15 hfr (by decide) (by decide)) hZ (hw _ (List.mem_of_getElem? (i := 31) rfl)) (hw _ (List.mem_of_getElem? (i := 23) rfl)) (by decide) (by decide)) q19a q19c (g := (mkF m 73 #[.val (.int p1), .val (.int p2), .val (.ref b3), .val (.ref w7), .val (.int o), .val (.ref sy), .unset, .unset, .unset, .unset] [(.int (0 : Int32)), (.ref sy)])) rfl (by rw [hml]; rfl) (Steps.refl _) (argsL := [(.int (0 : Int32))]) (rest := []) (lenOf pd_0_2 rfl) rfl (by show 2 * 0 + _ ≤ _; exact Nat.le_of_eq rfl) (hb hby at_73) (fun _ _ => ⟨rfl, e18, (by decide : 1 + 0 ≤ _), (by decide : 4 + 0 ≤ _)⟩)
  dsimp only [Pt.U, Pt.locs, Pt.cells, Pt.slots] at X19 l19 y19 z19 st19 hQ19
  subst l19 y19 z19
  obtain ⟨rfl, N19q, e19⟩ := hQ19
  have N19 := Fr.app N18 N19q
  obtain ⟨cq20, kq20, q20a, q20b, q20c⟩ := isOf hZ e19 (Es)
  obtain ⟨_, _, ⟨T20, L20, k20, n20⟩, -, X20, ⟨Lc20, hQ20, l20, y20, z20⟩, st20⟩ := X19.virtualBack hx (y := (⟨"java/lang/String", "charAt", "(I)C"⟩ : MethodName)) (z := (⟨"java/lang/String", "charAt", "(I)C"⟩ : MethodName)) hown (mvT hZ (hw _ (List.mem_of_getElem? (i := 27) rfl))) (mvT hZ (hw _ (List.mem_of_getElem? (i := 28) rfl))) (notFace_of_selects (args := #[]) (mvT hZ (hw _ (List.mem_of_getElem? (i := 30) rfl)))) (mvT hZ (hw _ (List.mem_of_getElem? (i := 30) rfl))) (mvT hZ (hw _ (List.mem_of_getElem? (i := 29) rfl))) (by decide) (backOf (W := 0) (rm3 l Z a0 hw [] sy (0 : Int32) va clv (2 : Int32) (60 : Int32) (60 : Int32) fr cw h15 n0 Z15 Es Fv Fc Av Sv Nv hi0 ha0 (by decide) (by decide) Scw15 hcw Sfr15 hfr (by decide) (by decide)) hZ (hw _ (List.mem_of_getElem? (i := 31) rfl)) (hw _ (List.mem_of_getElem? (i := 23) rfl)) (by decide) (by decide)) q20a q20c (g := (mkF m 91 #[.val (.int p1), .val (.int p2), .val (.ref b3), .val (.ref w7), .val (.int o), .val (.ref sy), .val (.int (1 : Int32)), .unset, .unset, .unset] [(.int (0 : Int32)), (.ref sy)])) rfl (by rw [hml]; rfl) (Steps.refl _) (argsL := [(.int (0 : Int32))]) (rest := []) (lenOf pd_0_2 rfl) rfl (by show 2 * 0 + _ ≤ _; exact Nat.le_of_eq rfl) (hb hby at_91) (fun _ _ => ⟨rfl, e19, (by decide : 1 + 0 ≤ _), (by decide : 4 + 0 ≤ _)⟩)
  dsimp only [Pt.U, Pt.locs, Pt.cells, Pt.slots] at X20 l20 y20 z20 st20 hQ20
  subst l20 y20 z20
  obtain ⟨rfl, N20q, e20⟩ := hQ20
  have N20 := Fr.app N19 N20q
  obtain ⟨cq21, kq21, q21a, q21b, q21c⟩ := isOf hZ e20 (Es)
  obtain ⟨_, _, ⟨T21, L21, k21, n21⟩, -, X21, ⟨Lc21, hQ21, l21, y21, z21⟩, st21⟩ := X20.virtualBack hx (y := (⟨"java/lang/String", "length", "()I"⟩ : MethodName)) (z := (⟨"java/lang/String", "length", "()I"⟩ : MethodName)) hown (mvT hZ (hw _ (List.mem_of_getElem? (i := 52) rfl))) (mvT hZ (hw _ (List.mem_of_getElem? (i := 53) rfl))) (notFace_of_selects (args := #[]) (mvT hZ (hw _ (List.mem_of_getElem? (i := 55) rfl)))) (mvT hZ (hw _ (List.mem_of_getElem? (i := 55) rfl))) (mvT hZ (hw _ (List.mem_of_getElem? (i := 54) rfl))) (by decide) (backOf (W := 0) (rm8 l Z a0 hw [] sy va clv (2 : Int32) (2 : Int32) cw h15 n0 Z15 Fv Av Sv Nv Es Fc Scw15 hcw (by decide)) hZ (hw _ (List.mem_of_getElem? (i := 56) rfl)) (hw _ (List.mem_of_getElem? (i := 23) rfl)) (by decide) (by decide)) q21a q21c (g := (mkF m 108 #[.val (.int p1), .val (.int p2), .val (.ref b3), .val (.ref w7), .val (.int o), .val (.ref sy), .val (.int (1 : Int32)), .val (.int (0 : Int32)), .unset, .unset] [(.ref sy)])) rfl (by rw [hml]; rfl) (Steps.refl _) (argsL := []) (rest := []) (lenOf pd_0_6 rfl) rfl (by show 2 * 0 + _ ≤ _; exact Nat.le_of_eq rfl) (hb hby at_108) (fun _ _ => ⟨rfl, e20, (by decide : 1 + 0 ≤ _), (by decide : 4 + 0 ≤ _)⟩)
  dsimp only [Pt.U, Pt.locs, Pt.cells, Pt.slots] at X21 l21 y21 z21 st21 hQ21
  subst l21 y21 z21
  obtain ⟨rfl, N21q, e21⟩ := hQ21
  have N21 := Fr.app N20 N21q
  obtain ⟨cq22, kq22, q22a, q22b, q22c⟩ := isOf hZ e21 (Es)
  obtain ⟨_, _, ⟨T22, L22, k22, n22⟩, -, X22, ⟨Lc22, hQ22, l22, y22, z22⟩, st22⟩ := X21.virtualBack hx (y := (⟨"java/lang/String", "charAt", "(I)C"⟩ : MethodName)) (z := (⟨"java/lang/String", "charAt", "(I)C"⟩ : MethodName)) hown (mvT hZ (hw _ (List.mem_of_getElem? (i := 27) rfl))) (mvT hZ (hw _ (List.mem_of_getElem? (i := 28) rfl))) (notFace_of_selects (args := #[]) (mvT hZ (hw _ (List.mem_of_getElem? (i := 30) rfl)))) (mvT hZ (hw _ (List.mem_of_getElem? (i := 30) rfl))) (mvT hZ (hw _ (List.mem_of_getElem? (i := 29) rfl))) (by decide) (backOf (W := 0) (rm3 l Z a0 hw [] sy (1 : Int32) va clv (2 : Int32) (61 : Int32) (61 : Int32) fr cw h15 n0 Z15 Es Fv Fc Av Sv Nv hi1 ha1 (by decide) (by decide) Scw15 hcw Sfr15 hfr (by decide) (by decide)) hZ (hw _ (List.mem_of_getElem? (i := 31) rfl)) (hw _ (List.mem_of_getElem? (i := 23) rfl)) (by decide) (by decide)) q22a q22c (g := (mkF m 118 #[.val (.int p1), .val (.int p2), .val (.ref b3), .val (.ref w7), .val (.int o), .val (.ref sy), .val (.int (1 : Int32)), .val (.int (0 : Int32)), .unset, .unset] [(.int (1 : Int32)), (.ref sy)])) rfl (by rw [hml]; rfl) (Steps.refl _) (argsL := [(.int (1 : Int32))]) (rest := []) (lenOf pd_0_2 rfl) rfl (by show 2 * 0 + _ ≤ _; exact Nat.le_of_eq rfl) (hb hby at_118) (fun _ _ => ⟨rfl, e21, (by decide : 1 + 0 ≤ _), (by decide : 4 + 0 ≤ _)⟩)
  dsimp only [Pt.U, Pt.locs, Pt.cells, Pt.slots] at X22 l22 y22 z22 st22 hQ22
  subst l22 y22 z22
  obtain ⟨rfl, N22q, e22⟩ := hQ22
  have N22 := Fr.app N21 N22q
  obtain ⟨cq23, kq23, q23a, q23b, q23c⟩ := isOf hZ e22 (Ew)
  obtain ⟨_, _, ⟨T23, L23, k23, n23⟩, -, X23, ⟨Lc23, hQ23, l23, y23, z23⟩, st23⟩ := X22.virtualBack hx (y := (⟨"com/example/balanza/balanza/logic/Comparison", "holds", "(I)Z"⟩ : MethodName)) (z := (⟨"com/example/balanza/balanza/logic/Comparison", "holds", "(I)Z"⟩ : MethodName)) hown (mvT hZ (hw _ (List.mem_of_getElem? (i := 62) rfl))) (mvT hZ (hw _ (List.mem_of_getElem? (i := 63) rfl))) (notFace_of_selects (args := #[]) (mvT hZ (hw _ (List.mem_of_getElem? (i := 65) rfl)))) (mvT hZ (hw _ (List.mem_of_getElem? (i := 65) rfl))) (mvT hZ (hw _ (List.mem_of_getElem? (i := 64) rfl))) (by decide) (backOf (W := 0) (rm10_1 l Z a0 hw [] w7 o xx h15 n0 Z15 Ew Fo (own_rx1 hxx)) hZ (hw _ (List.mem_of_getElem? (i := 66) rfl)) (hw _ (List.mem_of_getElem? (i := 3) rfl)) (by decide) (by decide)) q23a q23c (g := (mkF m 164 #[.val (.int p1), .val (.int p2), .val (.ref b3), .val (.ref w7), .val (.int o), .val (.ref sy), .val (.int (1 : Int32)), .val (.int (0 : Int32)), .val (.int (1 : Int32)), .val (.int xx)] [(.int o), (.ref w7)])) rfl (by rw [hml]; rfl) (Steps.refl _) (argsL := [(.int o)]) (rest := []) (lenOf pd_0_8 rfl) rfl (by show 2 * 0 + _ ≤ _; exact Nat.le_of_eq rfl) (hb hby at_164) (fun _ _ => ⟨rfl, e22, (by decide : 1 + 0 ≤ _), (by decide : 4 + 0 ≤ _)⟩)
  dsimp only [Pt.U, Pt.locs, Pt.cells, Pt.slots] at X23 l23 y23 z23 st23 hQ23
  subst l23 y23 z23
  obtain ⟨rfl, N23q, e23⟩ := hQ23
  have N23 := Fr.app N22 N23q
  obtain ⟨fs, hr, hrun, hended, hW, hsame⟩ := X23.leave (v := some (.int (1 : Int32))) (fun h => by rw [Bd.returns] at h; cases h)
  refine ⟨_, _, pre0 _ ?_, hrun, hended, _, _, rfl, ?_, ⟨_, rfl⟩, hW, hsame.mono (by decide) (by decide)⟩
  · show Steps p.tables e below (s₁.setTop (mkF m 0 #[.val (.int p1), .val (.int p2), .unset, .unset, .unset, .unset, .unset, .unset, .unset, .unset] [])) _
    refine XS.iconst X0.here hx rfl (hb hby at_0) ?_
    show Steps p.tables e below (s₁.setTop (mkF m 1 #[.val (.int p1), .val (.int p2), .unset, .unset, .unset, .unset, .unset, .unset, .unset, .unset] [(.int (4 : Int32))])) _
    refine st3 _ ?_
    show Steps p.tables e below (T3.setTop (mkF m 4 #[.val (.int p1), .val (.int p2), .unset, .unset, .unset, .unset, .unset, .unset, .unset, .unset] [(.ref b3)])) _
    refine XS.dup X3.here hx rfl (hb hby at_4) rfl rfl ?_
    show Steps p.tables e below (T3.setTop (mkF m 5 #[.val (.int p1), .val (.int p2), .unset, .unset, .unset, .unset, .unset, .unset, .unset, .unset] [(.ref b3), (.ref b3)])) _
    refine XS.iconst X3.here hx rfl (hb hby at_5) ?_
    show Steps p.tables e below (T3.setTop (mkF m 6 #[.val (.int p1), .val (.int p2), .unset, .unset, .unset, .unset, .unset, .unset, .unset, .unset] [(.int (0 : Int32)), (.ref b3), (.ref b3)])) _
    refine st5 _ ?_
    show Steps p.tables e below (T5.setTop (mkF m 9 #[.val (.int p1), .val (.int p2), .unset, .unset, .unset, .unset, .unset, .unset, .unset, .unset] [(.ref w4), (.int (0 : Int32)), (.ref b3), (.ref b3)])) _
    refine st6 _ ?_
    show Steps p.tables e below (T6.setTop (mkF m 10 #[.val (.int p1), .val (.int p2), .unset, .unset, .unset, .unset, .unset, .unset, .unset, .unset] [(.ref b3)])) _
    refine XS.dup X6.here hx rfl (hb hby at_10) rfl rfl ?_
    show Steps p.tables e below (T6.setTop (mkF m 11 #[.val (.int p1), .val (.int p2), .unset, .unset, .unset, .unset, .unset, .unset, .unset, .unset] [(.ref b3), (.ref b3)])) _
    refine XS.iconst X6.here hx rfl (hb hby at_11) ?_
    show Steps p.tables e below (T6.setTop (mkF m 12 #[.val (.int p1), .val (.int p2), .unset, .unset, .unset, .unset, .unset, .unset, .unset, .unset] [(.int (1 : Int32)), (.ref b3), (.ref b3)])) _
    refine st8 _ ?_
    show Steps p.tables e below (T8.setTop (mkF m 15 #[.val (.int p1), .val (.int p2), .unset, .unset, .unset, .unset, .unset, .unset, .unset, .unset] [(.ref w7), (.int (1 : Int32)), (.ref b3), (.ref b3)])) _
    refine st9 _ ?_
    show Steps p.tables e below (T9.setTop (mkF m 16 #[.val (.int p1), .val (.int p2), .unset, .unset, .unset, .unset, .unset, .unset, .unset, .unset] [(.ref b3)])) _
    refine XS.dup X9.here hx rfl (hb hby at_16) rfl rfl ?_
    show Steps p.tables e below (T9.setTop (mkF m 17 #[.val (.int p1), .val (.int p2), .unset, .unset, .unset, .unset, .unset, .unset, .unset, .unset] [(.ref b3), (.ref b3)])) _
    refine XS.iconst X9.here hx rfl (hb hby at_17) ?_
    show Steps p.tables e below (T9.setTop (mkF m 18 #[.val (.int p1), .val (.int p2), .unset, .unset, .unset, .unset, .unset, .unset, .unset, .unset] [(.int (2 : Int32)), (.ref b3), (.ref b3)])) _
    refine st11 _ ?_
    show Steps p.tables e below (T11.setTop (mkF m 21 #[.val (.int p1), .val (.int p2), .unset, .unset, .unset, .unset, .unset, .unset, .unset, .unset] [(.ref w10), (.int (2 : Int32)), (.ref b3), (.ref b3)])) _
    refine st12 _ ?_
    show Steps p.tables e below (T12.setTop (mkF m 22 #[.val (.int p1), .val (.int p2), .unset, .unset, .unset, .unset, .unset, .unset, .unset, .unset] [(.ref b3)])) _
    refine XS.dup X12.here hx rfl (hb hby at_22) rfl rfl ?_
    show Steps p.tables e below (T12.setTop (mkF m 23 #[.val (.int p1), .val (.int p2), .unset, .unset, .unset, .unset, .unset, .unset, .unset, .unset] [(.ref b3), (.ref b3)])) _
    refine XS.iconst X12.here hx rfl (hb hby at_23) ?_
    show Steps p.tables e below (T12.setTop (mkF m 24 #[.val (.int p1), .val (.int p2), .unset, .unset, .unset, .unset, .unset, .unset, .unset, .unset] [(.int (3 : Int32)), (.ref b3), (.ref b3)])) _
    refine st14 _ ?_
    show Steps p.tables e below (T14.setTop (mkF m 27 #[.val (.int p1), .val (.int p2), .unset, .unset, .unset, .unset, .unset, .unset, .unset, .unset] [(.ref w13), (.int (3 : Int32)), (.ref b3), (.ref b3)])) _
    refine st15 _ ?_
    show Steps p.tables e below (T15.setTop (mkF m 28 #[.val (.int p1), .val (.int p2), .unset, .unset, .unset, .unset, .unset, .unset, .unset, .unset] [(.ref b3)])) _
    refine XS.astoreN X15.here hx rfl (hb hby at_28) rfl rfl (l' := #[.val (.int p1), .val (.int p2), .val (.ref b3), .unset, .unset, .unset, .unset, .unset, .unset, .unset]) rfl ?_
    show Steps p.tables e below (T15.setTop (mkF m 29 #[.val (.int p1), .val (.int p2), .val (.ref b3), .unset, .unset, .unset, .unset, .unset, .unset, .unset] [])) _
    refine XS.aloadN X15.here hx rfl (hb hby at_29) rfl rfl ?_
    show Steps p.tables e below (T15.setTop (mkF m 30 #[.val (.int p1), .val (.int p2), .val (.ref b3), .unset, .unset, .unset, .unset, .unset, .unset, .unset] [(.ref b3)])) _
    refine XS.iloadN X15.here hx rfl (hb hby at_30) rfl ?_
    show Steps p.tables e below (T15.setTop (mkF m 31 #[.val (.int p1), .val (.int p2), .val (.ref b3), .unset, .unset, .unset, .unset, .unset, .unset, .unset] [(.int p1), (.ref b3)])) _
    refine XS.iconst X15.here hx rfl (hb hby at_31) ?_
    show Steps p.tables e below (T15.setTop (mkF m 32 #[.val (.int p1), .val (.int p2), .val (.ref b3), .unset, .unset, .unset, .unset, .unset, .unset, .unset] [(.int (3 : Int32)), (.int p1), (.ref b3)])) _
    refine XS.iand X15.here hx rfl (hb hby at_32) rfl ?_
    show Steps p.tables e below (T15.setTop (mkF m 33 #[.val (.int p1), .val (.int p2), .val (.ref b3), .unset, .unset, .unset, .unset, .unset, .unset, .unset] [(.int (p1 &&& (3 : Int32))), (.ref b3)])) _
    rw [hk]
    show Steps p.tables e below (T15.setTop (mkF m 33 #[.val (.int p1), .val (.int p2), .val (.ref b3), .unset, .unset, .unset, .unset, .unset, .unset, .unset] [(.int (1 : Int32)), (.ref b3)])) _
    refine X15.aaload hx (j := (1 : Int32)) (v := (.ref w7)) (by rw [e15]; exact Ar_b3.1) (State.isArrayOf_alike hZ.alike Ar_b3.2.1) rfl Ar_b3.2.2 hin33 hat33 (g := (mkF m 33 #[.val (.int p1), .val (.int p2), .val (.ref b3), .unset, .unset, .unset, .unset, .unset, .unset, .unset] [(.int (1 : Int32)), (.ref b3)])) rfl rfl (hb hby at_33) _ ?_
    show Steps p.tables e below (T15.setTop (mkF m 34 #[.val (.int p1), .val (.int p2), .val (.ref b3), .unset, .unset, .unset, .unset, .unset, .unset, .unset] [(.ref w7)])) _
    refine XS.astoreN X15.here hx rfl (hb hby at_34) rfl rfl (l' := #[.val (.int p1), .val (.int p2), .val (.ref b3), .val (.ref w7), .unset, .unset, .unset, .unset, .unset, .unset]) rfl ?_
    show Steps p.tables e below (T15.setTop (mkF m 35 #[.val (.int p1), .val (.int p2), .val (.ref b3), .val (.ref w7), .unset, .unset, .unset, .unset, .unset, .unset] [])) _
    refine own_pB _ _ _ _ _ _ _ _ _ _ o X15 hx hZ hw hby hml hown e15 One.u ho _ ?_
    show Steps p.tables e below (T15.setTop (mkF m 54 #[.val (.int p1), .val (.int p2), .val (.ref b3), .val (.ref w7), .val (.int o), .unset, .unset, .unset, .unset, .unset] [])) _
    refine XS.aloadN X15.here hx rfl (hb hby at_54) rfl rfl ?_
    show Steps p.tables e below (T15.setTop (mkF m 55 #[.val (.int p1), .val (.int p2), .val (.ref b3), .val (.ref w7), .val (.int o), .unset, .unset, .unset, .unset, .unset] [(.ref w7)])) _
    refine st17.trans ?_
    show Steps p.tables e below (T17.setTop (mkF m 58 #[.val (.int p1), .val (.int p2), .val (.ref b3), .val (.ref w7), .val (.int o), .unset, .unset, .unset, .unset, .unset] [(.ref sy)])) _
    refine XS.astore X17.here hx rfl (hb hby at_58) rfl rfl (l' := #[.val (.int p1), .val (.int p2), .val (.ref b3), .val (.ref w7), .val (.int o), .val (.ref sy), .unset, .unset, .unset, .unset]) rfl ?_
    show Steps p.tables e below (T17.setTop (mkF m 60 #[.val (.int p1), .val (.int p2), .val (.ref b3), .val (.ref w7), .val (.int o), .val (.ref sy), .unset, .unset, .unset, .unset] [])) _
    refine XS.aload X17.here hx rfl (hb hby at_60) rfl rfl ?_
    show Steps p.tables e below (T17.setTop (mkF m 62 #[.val (.int p1), .val (.int p2), .val (.ref b3), .val (.ref w7), .val (.int o), .val (.ref sy), .unset, .unset, .unset, .unset] [(.ref sy)])) _
    refine st18.trans ?_
    show Steps p.tables e below (T18.setTop (mkF m 65 #[.val (.int p1), .val (.int p2), .val (.ref b3), .val (.ref w7), .val (.int o), .val (.ref sy), .unset, .unset, .unset, .unset] [(.int (0 : Int32))])) _
    refine XS.ifYes X18.here hx rfl (pc0 := 65) (pc' := 70) rfl (hb hby at_65) rfl ((if0 _ _).trans (teq (rfl : (0 : Int32) = (0 : Int32))).1) (by decide) (by decide) ?_
    show Steps p.tables e below (T18.setTop (mkF m 70 #[.val (.int p1), .val (.int p2), .val (.ref b3), .val (.ref w7), .val (.int o), .val (.ref sy), .unset, .unset, .unset, .unset] [])) _
    refine XS.aload X18.here hx rfl (hb hby at_70) rfl rfl ?_
    show Steps p.tables e below (T18.setTop (mkF m 72 #[.val (.int p1), .val (.int p2), .val (.ref b3), .val (.ref w7), .val (.int o), .val (.ref sy), .unset, .unset, .unset, .unset] [(.ref sy)])) _
    refine XS.iconst X18.here hx rfl (hb hby at_72) ?_
    show Steps p.tables e below (T18.setTop (mkF m 73 #[.val (.int p1), .val (.int p2), .val (.ref b3), .val (.ref w7), .val (.int o), .val (.ref sy), .unset, .unset, .unset, .unset] [(.int (0 : Int32)), (.ref sy)])) _
    refine st19.trans ?_
    show Steps p.tables e below (T19.setTop (mkF m 76 #[.val (.int p1), .val (.int p2), .val (.ref b3), .val (.ref w7), .val (.int o), .val (.ref sy), .unset, .unset, .unset, .unset] [(.int (60 : Int32))])) _
    refine XS.bipush X19.here hx rfl (hb hby at_76) ?_
    show Steps p.tables e below (T19.setTop (mkF m 78 #[.val (.int p1), .val (.int p2), .val (.ref b3), .val (.ref w7), .val (.int o), .val (.ref sy), .unset, .unset, .unset, .unset] [(.int (60 : Int32)), (.int (60 : Int32))])) _
    refine XS.icmpNo X19.here hx rfl (hb hby at_78) rfl (teq (rfl : (60 : Int32) = (60 : Int32))).2 ?_
    show Steps p.tables e below (T19.setTop (mkF m 81 #[.val (.int p1), .val (.int p2), .val (.ref b3), .val (.ref w7), .val (.int o), .val (.ref sy), .unset, .unset, .unset, .unset] [])) _
    refine XS.iconst X19.here hx rfl (hb hby at_81) ?_
    show Steps p.tables e below (T19.setTop (mkF m 82 #[.val (.int p1), .val (.int p2), .val (.ref b3), .val (.ref w7), .val (.int o), .val (.ref sy), .unset, .unset, .unset, .unset] [(.int (1 : Int32))])) _
    refine XS.goto X19.here hx rfl (pc0 := 82) (pc' := 86) rfl (hb hby at_82) (by decide) (by decide) ?_
    show Steps p.tables e below (T19.setTop (mkF m 86 #[.val (.int p1), .val (.int p2), .val (.ref b3), .val (.ref w7), .val (.int o), .val (.ref sy), .unset, .unset, .unset, .unset] [(.int (1 : Int32))])) _
    refine XS.istore X19.here hx rfl (hb hby at_86) rfl (l' := #[.val (.int p1), .val (.int p2), .val (.ref b3), .val (.ref w7), .val (.int o), .val (.ref sy), .val (.int (1 : Int32)), .unset, .unset, .unset]) rfl ?_
    show Steps p.tables e below (T19.setTop (mkF m 88 #[.val (.int p1), .val (.int p2), .val (.ref b3), .val (.ref w7), .val (.int o), .val (.ref sy), .val (.int (1 : Int32)), .unset, .unset, .unset] [])) _
    refine XS.aload X19.here hx rfl (hb hby at_88) rfl rfl ?_
    show Steps p.tables e below (T19.setTop (mkF m 90 #[.val (.int p1), .val (.int p2), .val (.ref b3), .val (.ref w7), .val (.int o), .val (.ref sy), .val (.int (1 : Int32)), .unset, .unset, .unset] [(.ref sy)])) _
    refine XS.iconst X19.here hx rfl (hb hby at_90) ?_
    show Steps p.tables e below (T19.setTop (mkF m 91 #[.val (.int p1), .val (.int p2), .val (.ref b3), .val (.ref w7), .val (.int o), .val (.ref sy), .val (.int (1 : Int32)), .unset, .unset, .unset] [(.int (0 : Int32)), (.ref sy)])) _
    refine st20.trans ?_
    show Steps p.tables e below (T20.setTop (mkF m 94 #[.val (.int p1), .val (.int p2), .val (.ref b3), .val (.ref w7), .val (.int o), .val (.ref sy), .val (.int (1 : Int32)), .unset, .unset, .unset] [(.int (60 : Int32))])) _
    refine XS.bipush X20.here hx rfl (hb hby at_94) ?_
    show Steps p.tables e below (T20.setTop (mkF m 96 #[.val (.int p1), .val (.int p2), .val (.ref b3), .val (.ref w7), .val (.int o), .val (.ref sy), .val (.int (1 : Int32)), .unset, .unset, .unset] [(.int (62 : Int32)), (.int (60 : Int32))])) _
    refine XS.icmpYes X20.here hx rfl (pc0 := 96) (pc' := 103) rfl (hb hby at_96) rfl (feq (by decide : ¬ ((60 : Int32) = (62 : Int32)))).2 (by decide) (by decide) ?_
    show Steps p.tables e below (T20.setTop (mkF m 103 #[.val (.int p1), .val (.int p2), .val (.ref b3), .val (.ref w7), .val (.int o), .val (.ref sy), .val (.int (1 : Int32)), .unset, .unset, .unset] [])) _
    refine XS.iconst X20.here hx rfl (hb hby at_103) ?_
    show Steps p.tables e below (T20.setTop (mkF m 104 #[.val (.int p1), .val (.int p2), .val (.ref b3), .val (.ref w7), .val (.int o), .val (.ref sy), .val (.int (1 : Int32)), .unset, .unset, .unset] [(.int (0 : Int32))])) _
    refine XS.istore X20.here hx rfl (hb hby at_104) rfl (l' := #[.val (.int p1), .val (.int p2), .val (.ref b3), .val (.ref w7), .val (.int o), .val (.ref sy), .val (.int (1 : Int32)), .val (.int (0 : Int32)), .unset, .unset]) rfl ?_
    show Steps p.tables e below (T20.setTop (mkF m 106 #[.val (.int p1), .val (.int p2), .val (.ref b3), .val (.ref w7), .val (.int o), .val (.ref sy), .val (.int (1 : Int32)), .val (.int (0 : Int32)), .unset, .unset] [])) _
    refine XS.aload X20.here hx rfl (hb hby at_106) rfl rfl ?_
    show Steps p.tables e below (T20.setTop (mkF m 108 #[.val (.int p1), .val (.int p2), .val (.ref b3), .val (.ref w7), .val (.int o), .val (.ref sy), .val (.int (1 : Int32)), .val (.int (0 : Int32)), .unset, .unset] [(.ref sy)])) _
    refine st21.trans ?_
    show Steps p.tables e below (T21.setTop (mkF m 111 #[.val (.int p1), .val (.int p2), .val (.ref b3), .val (.ref w7), .val (.int o), .val (.ref sy), .val (.int (1 : Int32)), .val (.int (0 : Int32)), .unset, .unset] [(.int (2 : Int32))])) _
    refine XS.iconst X21.here hx rfl (hb hby at_111) ?_
    show Steps p.tables e below (T21.setTop (mkF m 112 #[.val (.int p1), .val (.int p2), .val (.ref b3), .val (.ref w7), .val (.int o), .val (.ref sy), .val (.int (1 : Int32)), .val (.int (0 : Int32)), .unset, .unset] [(.int (2 : Int32)), (.int (2 : Int32))])) _
    refine XS.icmpNo X21.here hx rfl (hb hby at_112) rfl (teq (rfl : (2 : Int32) = (2 : Int32))).2 ?_
    show Steps p.tables e below (T21.setTop (mkF m 115 #[.val (.int p1), .val (.int p2), .val (.ref b3), .val (.ref w7), .val (.int o), .val (.ref sy), .val (.int (1 : Int32)), .val (.int (0 : Int32)), .unset, .unset] [])) _
    refine XS.aload X21.here hx rfl (hb hby at_115) rfl rfl ?_
    show Steps p.tables e below (T21.setTop (mkF m 117 #[.val (.int p1), .val (.int p2), .val (.ref b3), .val (.ref w7), .val (.int o), .val (.ref sy), .val (.int (1 : Int32)), .val (.int (0 : Int32)), .unset, .unset] [(.ref sy)])) _
    refine XS.iconst X21.here hx rfl (hb hby at_117) ?_
    show Steps p.tables e below (T21.setTop (mkF m 118 #[.val (.int p1), .val (.int p2), .val (.ref b3), .val (.ref w7), .val (.int o), .val (.ref sy), .val (.int (1 : Int32)), .val (.int (0 : Int32)), .unset, .unset] [(.int (1 : Int32)), (.ref sy)])) _
    refine st22.trans ?_
    show Steps p.tables e below (T22.setTop (mkF m 121 #[.val (.int p1), .val (.int p2), .val (.ref b3), .val (.ref w7), .val (.int o), .val (.ref sy), .val (.int (1 : Int32)), .val (.int (0 : Int32)), .unset, .unset] [(.int (61 : Int32))])) _
    refine XS.bipush X22.here hx rfl (hb hby at_121) ?_
    show Steps p.tables e below (T22.setTop (mkF m 123 #[.val (.int p1), .val (.int p2), .val (.ref b3), .val (.ref w7), .val (.int o), .val (.ref sy), .val (.int (1 : Int32)), .val (.int (0 : Int32)), .unset, .unset] [(.int (61 : Int32)), (.int (61 : Int32))])) _
    refine XS.icmpNo X22.here hx rfl (hb hby at_123) rfl (teq (rfl : (61 : Int32) = (61 : Int32))).2 ?_
    show Steps p.tables e below (T22.setTop (mkF m 126 #[.val (.int p1), .val (.int p2), .val (.ref b3), .val (.ref w7), .val (.int o), .val (.ref sy), .val (.int (1 : Int32)), .val (.int (0 : Int32)), .unset, .unset] [])) _
    refine XS.iconst X22.here hx rfl (hb hby at_126) ?_
    show Steps p.tables e below (T22.setTop (mkF m 127 #[.val (.int p1), .val (.int p2), .val (.ref b3), .val (.ref w7), .val (.int o), .val (.ref sy), .val (.int (1 : Int32)), .val (.int (0 : Int32)), .unset, .unset] [(.int (1 : Int32))])) _
    refine XS.goto X22.here hx rfl (pc0 := 127) (pc' := 131) rfl (hb hby at_127) (by decide) (by decide) ?_
    show Steps p.tables e below (T22.setTop (mkF m 131 #[.val (.int p1), .val (.int p2), .val (.ref b3), .val (.ref w7), .val (.int o), .val (.ref sy), .val (.int (1 : Int32)), .val (.int (0 : Int32)), .unset, .unset] [(.int (1 : Int32))])) _
    refine XS.istore X22.here hx rfl (hb hby at_131) rfl (l' := #[.val (.int p1), .val (.int p2), .val (.ref b3), .val (.ref w7), .val (.int o), .val (.ref sy), .val (.int (1 : Int32)), .val (.int (0 : Int32)), .val (.int (1 : Int32)), .unset]) rfl ?_
    show Steps p.tables e below (T22.setTop (mkF m 133 #[.val (.int p1), .val (.int p2), .val (.ref b3), .val (.ref w7), .val (.int o), .val (.ref sy), .val (.int (1 : Int32)), .val (.int (0 : Int32)), .val (.int (1 : Int32)), .unset] [])) _
    refine own_pD _ _ _ _ _ _ _ _ _ _ xx X22 hx hZ hw hby hml hown e22 One.u hxx _ ?_
    show Steps p.tables e below (T22.setTop (mkF m 161 #[.val (.int p1), .val (.int p2), .val (.ref b3), .val (.ref w7), .val (.int o), .val (.ref sy), .val (.int (1 : Int32)), .val (.int (0 : Int32)), .val (.int (1 : Int32)), .val (.int xx)] [])) _
    refine XS.aloadN X22.here hx rfl (hb hby at_161) rfl rfl ?_
    show Steps p.tables e below (T22.setTop (mkF m 162 #[.val (.int p1), .val (.int p2), .val (.ref b3), .val (.ref w7), .val (.int o), .val (.ref sy), .val (.int (1 : Int32)), .val (.int (0 : Int32)), .val (.int (1 : Int32)), .val (.int xx)] [(.ref w7)])) _
    refine XS.iload X22.here hx rfl (hb hby at_162) rfl ?_
    show Steps p.tables e below (T22.setTop (mkF m 164 #[.val (.int p1), .val (.int p2), .val (.ref b3), .val (.ref w7), .val (.int o), .val (.ref sy), .val (.int (1 : Int32)), .val (.int (0 : Int32)), .val (.int (1 : Int32)), .val (.int xx)] [(.int o), (.ref w7)])) _
    refine st23.trans ?_
    show Steps p.tables e below (T23.setTop (mkF m 167 #[.val (.int p1), .val (.int p2), .val (.ref b3), .val (.ref w7), .val (.int o), .val (.ref sy), .val (.int (1 : Int32)), .val (.int (0 : Int32)), .val (.int (1 : Int32)), .val (.int xx)] [(.int xx)])) _
    refine XS.iload X23.here hx rfl (hb hby at_167) rfl ?_
    show Steps p.tables e below (T23.setTop (mkF m 169 #[.val (.int p1), .val (.int p2), .val (.ref b3), .val (.ref w7), .val (.int o), .val (.ref sy), .val (.int (1 : Int32)), .val (.int (0 : Int32)), .val (.int (1 : Int32)), .val (.int xx)] [(.int xx), (.int xx)])) _
    refine XS.icmpNo X23.here hx rfl (hb hby at_169) rfl (teq (rfl : xx = xx)).2 ?_
    show Steps p.tables e below (T23.setTop (mkF m 172 #[.val (.int p1), .val (.int p2), .val (.ref b3), .val (.ref w7), .val (.int o), .val (.ref sy), .val (.int (1 : Int32)), .val (.int (0 : Int32)), .val (.int (1 : Int32)), .val (.int xx)] [])) _
    refine XS.iconst X23.here hx rfl (hb hby at_172) ?_
    show Steps p.tables e below (T23.setTop (mkF m 173 #[.val (.int p1), .val (.int p2), .val (.ref b3), .val (.ref w7), .val (.int o), .val (.ref sy), .val (.int (1 : Int32)), .val (.int (0 : Int32)), .val (.int (1 : Int32)), .val (.int xx)] [(.int (1 : Int32))])) _
    refine XS.goto X23.here hx rfl (pc0 := 173) (pc' := 177) rfl (hb hby at_173) (by decide) (by decide) ?_
    show Steps p.tables e below (T23.setTop (mkF m 177 #[.val (.int p1), .val (.int p2), .val (.ref b3), .val (.ref w7), .val (.int o), .val (.ref sy), .val (.int (1 : Int32)), .val (.int (0 : Int32)), .val (.int (1 : Int32)), .val (.int xx)] [(.int (1 : Int32))])) _
    exact retN X23 hx (t := .boolean) Bd.returns (by simp) (hb hby at_177) hr
  · show Q0 Z p1 p2 h0 n0 _ T23.heap _
    exact ⟨rfl, N23⟩

set_option maxRecDepth 65536 in
set_option maxHeartbeats 40000000 in
theorem rm0_2 (l : Launch) (Z : State) (a0 : Array Value) (hw : ∀ d ∈ tables_1, d.before a0 Z = true) (ws : List Jvm.Cond) (p1 : Int32) (p2 : Int32) (w4 w7 w10 w13 : Addr) (h0 : Heap) (n0 : Nat) (Z0 : n0 ≤ h0.size) (S_LESS : Sta Z h0 "com/example/balanza/balanza/logic/Comparison" "LESS" "Lcom/example/balanza/balanza/logic/Comparison;" (.ref w4)) (S_AT_MOST : Sta Z h0 "com/example/balanza/balanza/logic/Comparison" "AT_MOST" "Lcom/example/balanza/balanza/logic/Comparison;" (.ref w7)) (S_GREATER : Sta Z h0 "com/example/balanza/balanza/logic/Comparison" "GREATER" "Lcom/example/balanza/balanza/logic/Comparison;" (.ref w10)) (S_AT_LEAST : Sta Z h0 "com/example/balanza/balanza/logic/Comparison" "AT_LEAST" "Lcom/example/balanza/balanza/logic/Comparison;" (.ref w13)) (E_0 : Exa Z h0 w4 "com/example/balanza/balanza/logic/Comparison") (E_1 : Exa Z h0 w7 "com/example/balanza/balanza/logic/Comparison") (E_2 : Exa Z h0 w10 "com/example/balanza/balanza/logic/Comparison") (E_3 : Exa Z h0 w13 "com/example/balanza/balanza/logic/Comparison") (cw : Int32) (Scw : Sta Z h0 "java/lang/String" "COMPACT_STRINGS" "Z" (.int cw)) (hcw : ¬ (cw = (0 : Int32))) (fr : Value) (Sfr : Sta Z h0 "jdk/internal/util/Preconditions" "SIOOBE_FORMATTER" "Ljava/util/function/BiFunction;" fr) (hfr : fr.isRef = true) (CX : own_C Z h0 w10 (2 : Int32) (1 : Int32) [(.int (62 : Int32))]) (hk : (p1 &&& (3 : Int32)) = (2 : Int32)) :
    MetFree l x (head1 (Jvm.Cond.code x code maxLocals ret :: ws) room_1) (fun a U => a = #[(.int p1), (.int p2)] ∧ Z.Warmed39 U.vm ∧ U.heap = h0) (fun _ _ _ _ _ => True) (fun _ U o U' => ∃ v L, o = .returned v ∧ Q0 Z p1 p2 h0 n0 v U'.heap L ∧ FrameEnd U o U' L room_1.cells room_1.slots) := by
  refine MetFree.of_bodySF (plainFor_of_name pn_0) hisR ?_
  intro p e s m args below meth c s₁ Bd hml0 hP hK
  obtain ⟨rfl, hZ, hh⟩ := hP
  have hx := Bd.exec
  have hby := Bd.bytes
  have hml : c.maxLocals = 10 := hml0
  have hown : s.vm.findClass "com/example/balanza/balanza/logic/ComparisonHoldsPinLaw" = some m.cls := findClass_of_methodNamed Bd.named
  have hnm := (name_of_methodNamed Bd.named Bd.method).1
  have X0 : Stand p l e room_1 s m #[(.int p1), (.int p2)] below meth c s₁ [] 0 0 := Stand.of_body Bd
  have e0 : s₁.heap = h0 := by rw [← hh, Bd.state]; rfl
  have N0 := Fr.nil n0
  have pre0 : ∀ t, Steps p.tables e below (s₁.setTop (mkF m 0 #[.val (.int p1), .val (.int p2), .unset, .unset, .unset, .unset, .unset, .unset, .unset, .unset] [])) t → Steps p.tables e below (s₁.setTop (entryFrame m #[(.int p1), (.int p2)] maxLocals)) t := fun t k => castTop (ef_0 m p1 p2) k
  obtain ⟨o, ho⟩ := own_o_all p1 p2
  obtain ⟨xx, hxx⟩ := own_x_all (0 : Int32) (1 : Int32) (0 : Int32) o
  obtain ⟨T3, h3, k3, X3, e3, E3, A3, O3, st3⟩ := newR X0 hx hZ hown (hw _ (List.mem_of_getElem? (i := 0) rfl)) (hw _ (List.mem_of_getElem? (i := 1) rfl)) e0 (g := (mkF m 1 #[.val (.int p1), .val (.int p2), .unset, .unset, .unset, .unset, .unset, .unset, .unset, .unset] [(.int (4 : Int32))])) rfl (hb hby at_1) rfl (by decide) (cap := 4) (by decide) (by decide) (by decide) (by decide)
  obtain ⟨b3, g3⟩ : ∃ z, z = h0.size := ⟨_, rfl⟩
  rw [← g3] at A3 st3
  have V_b3 : Arv Z h3 b3 k3 (.object "com/example/balanza/balanza/logic/Comparison") (4 : Int32) [.null, .null, .null, .null] .null := (Arv.new A3 (by decide)).pad (pad_rep [] .null 4)
  have g_b3 : n0 ≤ b3 := Nat.le_trans Z0 (Nat.le_of_eq g3.symm)
  have sz_b3 : h0.size ≤ b3 := (Nat.le_trans (Keep.refl h0 []).1 (Nat.le_of_eq g3.symm))
  have K3 : Keep h0 h3 [] := (Keep.refl h0 []).ext E3
  obtain ⟨T5, X5, e5, st5⟩ := getS2 X3 hx hZ hown (host := "") (Or.inl (hw _ (List.mem_of_getElem? (i := 2) rfl))) Via.refl e3 (S_LESS.ext E3) (g := (mkF m 6 #[.val (.int p1), .val (.int p2), .unset, .unset, .unset, .unset, .unset, .unset, .unset, .unset] [(.int (0 : Int32)), (.ref b3), (.ref b3)])) rfl (hb hby at_6)
  obtain ⟨cl_0, Ar_b3, q_b3, S_b3, N_b3, H_b3, G_b3⟩ := V_b3
  have hin9 : ¬ ((0 : Int32) < 0 ∨ cl_0.slots.size ≤ ((0 : Int32)).toNatClampNeg) := inb_of S_b3 ⟨by decide, by decide⟩
  have Sto9 := Sto.ofV Ar_b3 q_b3 O3 (Ins.self (E_0.ext E3))
  obtain ⟨T6, h6, X6, e6, W6, st6⟩ := stR X5 hx hZ e5 Ar_b3 (j := (0 : Int32)) hin9 rfl Sto9 (g := (mkF m 9 #[.val (.int p1), .val (.int p2), .unset, .unset, .unset, .unset, .unset, .unset, .unset, .unset] [(.ref w4), (.int (0 : Int32)), (.ref b3), (.ref b3)])) rfl rfl (hb hby at_9)
  have V_b3_6 := Arv.set Ar_b3 q_b3 S_b3 N_b3 H_b3 G_b3 rfl W6 0 rfl (Nat.le_of_ble_eq_true rfl)
  have N6 := Fr.snoc X6 N0 g_b3
  have K6 : Keep h0 h6 [] := K3.wr W6 (Or.inr sz_b3)
  obtain ⟨T8, X8, e8, st8⟩ := getS2 X6 hx hZ hown (host := "") (Or.inl (hw _ (List.mem_of_getElem? (i := 6) rfl))) Via.refl e6 ((S_AT_MOST.ext E3).wr W6) (g := (mkF m 12 #[.val (.int p1), .val (.int p2), .unset, .unset, .unset, .unset, .unset, .unset, .unset, .unset] [(.int (1 : Int32)), (.ref b3), (.ref b3)])) rfl (hb hby at_12)
  obtain ⟨cl_1, Ar_b3, q_b3, S_b3, N_b3, H_b3, G_b3⟩ := V_b3_6
  have hin15 : ¬ ((1 : Int32) < 0 ∨ cl_1.slots.size ≤ ((1 : Int32)).toNatClampNeg) := inb_of S_b3 ⟨by decide, by decide⟩
  have Sto15 := Sto.ofV Ar_b3 q_b3 O3 (Ins.self ((E_1.ext E3).wr W6))
  obtain ⟨T9, h9, X9, e9, W9, st9⟩ := stR X8 hx hZ e8 Ar_b3 (j := (1 : Int32)) hin15 rfl Sto15 (g := (mkF m 15 #[.val (.int p1), .val (.int p2), .unset, .unset, .unset, .unset, .unset, .unset, .unset, .unset] [(.ref w7), (.int (1 : Int32)), (.ref b3), (.ref b3)])) rfl rfl (hb hby at_15)
  have V_b3_9 := Arv.set Ar_b3 q_b3 S_b3 N_b3 H_b3 G_b3 rfl W9 1 rfl (Nat.le_of_ble_eq_true rfl)
  have N9 := Fr.snoc X9 N6 g_b3
  have K9 : Keep h0 h9 [] := K6.wr W9 (Or.inr sz_b3)
  obtain ⟨T11, X11, e11, st11⟩ := getS2 X9 hx hZ hown (host := "") (Or.inl (hw _ (List.mem_of_getElem? (i := 8) rfl))) Via.refl e9 (((S_GREATER.ext E3).wr W6).wr W9) (g := (mkF m 18 #[.val (.int p1), .val (.int p2), .unset, .unset, .unset, .unset, .unset, .unset, .unset, .unset] [(.int (2 : Int32)), (.ref b3), (.ref b3)])) rfl (hb hby at_18)
  obtain ⟨cl_2, Ar_b3, q_b3, S_b3, N_b3, H_b3, G_b3⟩ := V_b3_9
  have hin21 : ¬ ((2 : Int32) < 0 ∨ cl_2.slots.size ≤ ((2 : Int32)).toNatClampNeg) := inb_of S_b3 ⟨by decide, by decide⟩
  have Sto21 := Sto.ofV Ar_b3 q_b3 O3 (Ins.self (((E_2.ext E3).wr W6).wr W9))
  obtain ⟨T12, h12, X12, e12, W12, st12⟩ := stR X11 hx hZ e11 Ar_b3 (j := (2 : Int32)) hin21 rfl Sto21 (g := (mkF m 21 #[.val (.int p1), .val (.int p2), .unset, .unset, .unset, .unset, .unset, .unset, .unset, .unset] [(.ref w10), (.int (2 : Int32)), (.ref b3), (.ref b3)])) rfl rfl (hb hby at_21)
  have V_b3_12 := Arv.set Ar_b3 q_b3 S_b3 N_b3 H_b3 G_b3 rfl W12 2 rfl (Nat.le_of_ble_eq_true rfl)
  have N12 := Fr.snoc X12 N9 g_b3
  have K12 : Keep h0 h12 [] := K9.wr W12 (Or.inr sz_b3)
  obtain ⟨T14, X14, e14, st14⟩ := getS2 X12 hx hZ hown (host := "") (Or.inl (hw _ (List.mem_of_getElem? (i := 10) rfl))) Via.refl e12 ((((S_AT_LEAST.ext E3).wr W6).wr W9).wr W12) (g := (mkF m 24 #[.val (.int p1), .val (.int p2), .unset, .unset, .unset, .unset, .unset, .unset, .unset, .unset] [(.int (3 : Int32)), (.ref b3), (.ref b3)])) rfl (hb hby at_24)
  obtain ⟨cl_3, Ar_b3, q_b3, S_b3, N_b3, H_b3, G_b3⟩ := V_b3_12
  have hin27 : ¬ ((3 : Int32) < 0 ∨ cl_3.slots.size ≤ ((3 : Int32)).toNatClampNeg) := inb_of S_b3 ⟨by decide, by decide⟩
  have Sto27 := Sto.ofV Ar_b3 q_b3 O3 (Ins.self ((((E_3.ext E3).wr W6).wr W9).wr W12))
  obtain ⟨T15, h15, X15, e15, W15, st15⟩ := stR X14 hx hZ e14 Ar_b3 (j := (3 : Int32)) hin27 rfl Sto27 (g := (mkF m 27 #[.val (.int p1), .val (.int p2), .unset, .unset, .unset, .unset, .unset, .unset, .unset, .unset] [(.ref w13), (.int (3 : Int32)), (.ref b3), (.ref b3)])) rfl rfl (hb hby at_27)
  have V_b3_15 := Arv.set Ar_b3 q_b3 S_b3 N_b3 H_b3 G_b3 rfl W15 3 rfl (Nat.le_of_ble_eq_true rfl)
  have N15 := Fr.snoc X15 N12 g_b3
  have K15 : Keep h0 h15 [] := K12.wr W15 (Or.inr sz_b3)
  have V15 : Arv Z h15 b3 k3 (.object "com/example/balanza/balanza/logic/Comparison") (4 : Int32) [(.ref w4), (.ref w7), (.ref w10), (.ref w13)] .null := V_b3_15
  obtain ⟨cl_9, Ar_b3, q_b3, S_b3, N_b3, H_b3, G_b3⟩ := V15
  have hin33 : ¬ ((2 : Int32) < 0 ∨ cl_9.slots.size ≤ ((2 : Int32)).toNatClampNeg) := inb_of S_b3 ⟨by decide, by decide⟩
  have hat33 : cl_9.slots[((2 : Int32)).toNatClampNeg]? = some (.ref w10) := H_b3.at hin33 rfl
  have Z15 : n0 ≤ h15.size := Nat.le_trans Z0 K15.1
  have Scw15 := ((((Scw.ext E3).wr W6).wr W9).wr W12).wr W15
  have Sfr15 := ((((Sfr.ext E3).wr W6).wr W9).wr W12).wr W15
  obtain ⟨Ew, Fo, sy, va, kv, Fs, Es, Fv, Fc, Vv⟩ := CX.keep K15
  obtain ⟨clv, Av, qv, Sv, Nv, Hv, Gv⟩ := Vv
  have hi0 : ¬ ((0 : Int32) < 0 ∨ clv.slots.size ≤ ((0 : Int32)).toNatClampNeg) := inb_of Sv ⟨by decide, by decide⟩
  have ha0 : clv.slots[((0 : Int32)).toNatClampNeg]? = some (.int (62 : Int32)) := Hv.at hi0 rfl
  obtain ⟨cq17, kq17, q17a, q17b, q17c⟩ := isOf hZ e15 (Ew)
  obtain ⟨_, _, ⟨T17, L17, k17, n17⟩, -, X17, ⟨Lc17, hQ17, l17, y17, z17⟩, st17⟩ := X15.virtualBack hx (y := (⟨"com/example/balanza/balanza/logic/Comparison", "symbol", "()Ljava/lang/String;"⟩ : MethodName)) (z := (⟨"com/example/balanza/balanza/logic/Comparison", "symbol", "()Ljava/lang/String;"⟩ : MethodName)) hown (mvT hZ (hw _ (List.mem_of_getElem? (i := 12) rfl))) (mvT hZ (hw _ (List.mem_of_getElem? (i := 13) rfl))) (notFace_of_selects (args := #[]) (mvT hZ (hw _ (List.mem_of_getElem? (i := 15) rfl)))) (mvT hZ (hw _ (List.mem_of_getElem? (i := 15) rfl))) (mvT hZ (hw _ (List.mem_of_getElem? (i := 14) rfl))) (by decide) (backOf (W := 0) (rm1 l Z a0 hw [] w10 sy h15 n0 Z15 Fs) hZ (hw _ (List.mem_of_getElem? (i := 16) rfl)) (hw _ (List.mem_of_getElem? (i := 3) rfl)) (by decide) (by decide)) q17a q17c (g := (mkF m 55 #[.val (.int p1), .val (.int p2), .val (.ref b3), .val (.ref w10), .val (.int o), .unset, .unset, .unset, .unset, .unset] [(.ref w10)])) rfl (by rw [hml]; rfl) (Steps.refl _) (argsL := []) (rest := []) (lenOf pd_0_0 rfl) rfl (by show 2 * 0 + _ ≤ _; exact Nat.le_of_eq rfl) (hb hby at_55) (fun _ _ => ⟨rfl, e15, (by decide : 1 + 0 ≤ _), (by decide : 4 + 0 ≤ _)⟩)
  dsimp only [Pt.U, Pt.locs, Pt.cells, Pt.slots] at X17 l17 y17 z17 st17 hQ17
  subst l17 y17 z17
  obtain ⟨rfl, N17q, e17⟩ := hQ17
  have N17 := Fr.app N15 N17q
  obtain ⟨cq18, kq18, q18a, q18b, q18c⟩ := isOf hZ e17 (Es)
  obtain ⟨_, _, ⟨T18, L18, k18, n18⟩, -, X18, ⟨Lc18, hQ18, l18, y18, z18⟩, st18⟩ := X17.virtualBack hx (y := (⟨"java/lang/String", "isEmpty", "()Z"⟩ : MethodName)) (z := (⟨"java/lang/String", "isEmpty", "()Z"⟩ : MethodName)) hown (mvT hZ (hw _ (List.mem_of_getElem? (i := 19) rfl))) (mvT hZ (hw _ (List.mem_of_getElem? (i := 20) rfl))) (notFace_of_selects (args := #[]) (mvT hZ (hw _ (List.mem_of_getElem? (i := 22) rfl)))) (mvT hZ (hw _ (List.mem_of_getElem? (i := 22) rfl))) (mvT hZ (hw _ (List.mem_of_getElem? (i := 21) rfl))) (by decide) (backOf (W := 0) (rm2 l Z a0 hw [] sy va clv (1 : Int32) h15 n0 Z15 Fv Av Sv Nv (by decide)) hZ (hw _ (List.mem_of_getElem? (i := 24) rfl)) (hw _ (List.mem_of_getElem? (i := 23) rfl)) (by decide) (by decide)) q18a q18c (g := (mkF m 62 #[.val (.int p1), .val (.int p2), .val (.ref b3), .val (.ref w10), .val (.int o), .val (.ref sy), .unset, .unset, .unset, .unset] [(.ref sy)])) rfl (by rw [hml]; rfl) (Steps.refl _) (argsL := []) (rest := []) (lenOf pd_0_1 rfl) rfl (by show 2 * 0 + _ ≤ _; exact Nat.le_of_eq rfl) (hb hby at_62) (fun _ _ => ⟨rfl, e17, (by decide : 1 + 0 ≤ _), (by decide : 4 + 0 ≤ _)⟩)
  dsimp only [Pt.U, Pt.locs, Pt.cells, Pt.slots] at X18 l18 y18 z18 st18 hQ18
  subst l18 y18 z18
  obtain ⟨rfl, N18q, e18⟩ := hQ18
  have N18 := Fr.app N17 N18q
  obtain ⟨cq19, kq19, q19a, q19b, q19c⟩ := isOf hZ e18 (Es)
  obtain ⟨_, _, ⟨T19, L19, k19, n19⟩, -, X19, ⟨Lc19, hQ19, l19, y19, z19⟩, st19⟩ := X18.virtualBack hx (y := (⟨"java/lang/String", "charAt", "(I)C"⟩ : MethodName)) (z := (⟨"java/lang/String", "charAt", "(I)C"⟩ : MethodName)) hown (mvT hZ (hw _ (List.mem_of_getElem? (i := 27) rfl))) (mvT hZ (hw _ (List.mem_of_getElem? (i := 28) rfl))) (notFace_of_selects (args := #[]) (mvT hZ (hw _ (List.mem_of_getElem? (i := 30) rfl)))) (mvT hZ (hw _ (List.mem_of_getElem? (i := 30) rfl))) (mvT hZ (hw _ (List.mem_of_getElem? (i := 29) rfl))) (by decide) (backOf (W := 0) (rm3 l Z a0 hw [] sy (0 : Int32) va clv (1 : Int32) (62 : Int32) (62 : Int32) fr cw h15 n0 Z15 Es Fv Fc Av Sv Nv hi0 ha0 (by decide) (by decide) Scw15 hcw Sfr15 hfr (by decide) (by decide)) hZ (hw _ (List.mem_of_getElem? (i := 31) rfl)) (hw _ (List.mem_of_getElem? (i := 23) rfl)) (by decide) (by decide)) q19a q19c (g := (mkF m 73 #[.val (.int p1), .val (.int p2), .val (.ref b3), .val (.ref w10), .val (.int o), .val (.ref sy), .unset, .unset, .unset, .unset] [(.int (0 : Int32)), (.ref sy)])) rfl (by rw [hml]; rfl) (Steps.refl _) (argsL := [(.int (0 : Int32))]) (rest := []) (lenOf pd_0_2 rfl) rfl (by show 2 * 0 + _ ≤ _; exact Nat.le_of_eq rfl) (hb hby at_73) (fun _ _ => ⟨rfl, e18, (by decide : 1 + 0 ≤ _), (by decide : 4 + 0 ≤ _)⟩)
  dsimp only [Pt.U, Pt.locs, Pt.cells, Pt.slots] at X19 l19 y19 z19 st19 hQ19
  subst l19 y19 z19
  obtain ⟨rfl, N19q, e19⟩ := hQ19
  have N19 := Fr.app N18 N19q
  obtain ⟨cq20, kq20, q20a, q20b, q20c⟩ := isOf hZ e19 (Es)
  obtain ⟨_, _, ⟨T20, L20, k20, n20⟩, -, X20, ⟨Lc20, hQ20, l20, y20, z20⟩, st20⟩ := X19.virtualBack hx (y := (⟨"java/lang/String", "charAt", "(I)C"⟩ : MethodName)) (z := (⟨"java/lang/String", "charAt", "(I)C"⟩ : MethodName)) hown (mvT hZ (hw _ (List.mem_of_getElem? (i := 27) rfl))) (mvT hZ (hw _ (List.mem_of_getElem? (i := 28) rfl))) (notFace_of_selects (args := #[]) (mvT hZ (hw _ (List.mem_of_getElem? (i := 30) rfl)))) (mvT hZ (hw _ (List.mem_of_getElem? (i := 30) rfl))) (mvT hZ (hw _ (List.mem_of_getElem? (i := 29) rfl))) (by decide) (backOf (W := 0) (rm3 l Z a0 hw [] sy (0 : Int32) va clv (1 : Int32) (62 : Int32) (62 : Int32) fr cw h15 n0 Z15 Es Fv Fc Av Sv Nv hi0 ha0 (by decide) (by decide) Scw15 hcw Sfr15 hfr (by decide) (by decide)) hZ (hw _ (List.mem_of_getElem? (i := 31) rfl)) (hw _ (List.mem_of_getElem? (i := 23) rfl)) (by decide) (by decide)) q20a q20c (g := (mkF m 91 #[.val (.int p1), .val (.int p2), .val (.ref b3), .val (.ref w10), .val (.int o), .val (.ref sy), .val (.int (0 : Int32)), .unset, .unset, .unset] [(.int (0 : Int32)), (.ref sy)])) rfl (by rw [hml]; rfl) (Steps.refl _) (argsL := [(.int (0 : Int32))]) (rest := []) (lenOf pd_0_2 rfl) rfl (by show 2 * 0 + _ ≤ _; exact Nat.le_of_eq rfl) (hb hby at_91) (fun _ _ => ⟨rfl, e19, (by decide : 1 + 0 ≤ _), (by decide : 4 + 0 ≤ _)⟩)
  dsimp only [Pt.U, Pt.locs, Pt.cells, Pt.slots] at X20 l20 y20 z20 st20 hQ20
  subst l20 y20 z20
  obtain ⟨rfl, N20q, e20⟩ := hQ20
  have N20 := Fr.app N19 N20q
  obtain ⟨cq21, kq21, q21a, q21b, q21c⟩ := isOf hZ e20 (Es)
  obtain ⟨_, _, ⟨T21, L21, k21, n21⟩, -, X21, ⟨Lc21, hQ21, l21, y21, z21⟩, st21⟩ := X20.virtualBack hx (y := (⟨"java/lang/String", "length", "()I"⟩ : MethodName)) (z := (⟨"java/lang/String", "length", "()I"⟩ : MethodName)) hown (mvT hZ (hw _ (List.mem_of_getElem? (i := 52) rfl))) (mvT hZ (hw _ (List.mem_of_getElem? (i := 53) rfl))) (notFace_of_selects (args := #[]) (mvT hZ (hw _ (List.mem_of_getElem? (i := 55) rfl)))) (mvT hZ (hw _ (List.mem_of_getElem? (i := 55) rfl))) (mvT hZ (hw _ (List.mem_of_getElem? (i := 54) rfl))) (by decide) (backOf (W := 0) (rm8 l Z a0 hw [] sy va clv (1 : Int32) (1 : Int32) cw h15 n0 Z15 Fv Av Sv Nv Es Fc Scw15 hcw (by decide)) hZ (hw _ (List.mem_of_getElem? (i := 56) rfl)) (hw _ (List.mem_of_getElem? (i := 23) rfl)) (by decide) (by decide)) q21a q21c (g := (mkF m 108 #[.val (.int p1), .val (.int p2), .val (.ref b3), .val (.ref w10), .val (.int o), .val (.ref sy), .val (.int (0 : Int32)), .val (.int (1 : Int32)), .unset, .unset] [(.ref sy)])) rfl (by rw [hml]; rfl) (Steps.refl _) (argsL := []) (rest := []) (lenOf pd_0_6 rfl) rfl (by show 2 * 0 + _ ≤ _; exact Nat.le_of_eq rfl) (hb hby at_108) (fun _ _ => ⟨rfl, e20, (by decide : 1 + 0 ≤ _), (by decide : 4 + 0 ≤ _)⟩)
  dsimp only [Pt.U, Pt.locs, Pt.cells, Pt.slots] at X21 l21 y21 z21 st21 hQ21
  subst l21 y21 z21
  obtain ⟨rfl, N21q, e21⟩ := hQ21
  have N21 := Fr.app N20 N21q
  obtain ⟨cq22, kq22, q22a, q22b, q22c⟩ := isOf hZ e21 (Ew)
  obtain ⟨_, _, ⟨T22, L22, k22, n22⟩, -, X22, ⟨Lc22, hQ22, l22, y22, z22⟩, st22⟩ := X21.virtualBack hx (y := (⟨"com/example/balanza/balanza/logic/Comparison", "holds", "(I)Z"⟩ : MethodName)) (z := (⟨"com/example/balanza/balanza/logic/Comparison", "holds", "(I)Z"⟩ : MethodName)) hown (mvT hZ (hw _ (List.mem_of_getElem? (i := 62) rfl))) (mvT hZ (hw _ (List.mem_of_getElem? (i := 63) rfl))) (notFace_of_selects (args := #[]) (mvT hZ (hw _ (List.mem_of_getElem? (i := 65) rfl)))) (mvT hZ (hw _ (List.mem_of_getElem? (i := 65) rfl))) (mvT hZ (hw _ (List.mem_of_getElem? (i := 64) rfl))) (by decide) (backOf (W := 0) (rm10_2 l Z a0 hw [] w10 o xx h15 n0 Z15 Ew Fo (own_rx2 hxx)) hZ (hw _ (List.mem_of_getElem? (i := 66) rfl)) (hw _ (List.mem_of_getElem? (i := 3) rfl)) (by decide) (by decide)) q22a q22c (g := (mkF m 164 #[.val (.int p1), .val (.int p2), .val (.ref b3), .val (.ref w10), .val (.int o), .val (.ref sy), .val (.int (0 : Int32)), .val (.int (1 : Int32)), .val (.int (0 : Int32)), .val (.int xx)] [(.int o), (.ref w10)])) rfl (by rw [hml]; rfl) (Steps.refl _) (argsL := [(.int o)]) (rest := []) (lenOf pd_0_8 rfl) rfl (by show 2 * 0 + _ ≤ _; exact Nat.le_of_eq rfl) (hb hby at_164) (fun _ _ => ⟨rfl, e21, (by decide : 1 + 0 ≤ _), (by decide : 4 + 0 ≤ _)⟩)
  dsimp only [Pt.U, Pt.locs, Pt.cells, Pt.slots] at X22 l22 y22 z22 st22 hQ22
  subst l22 y22 z22
  obtain ⟨rfl, N22q, e22⟩ := hQ22
  have N22 := Fr.app N21 N22q
  obtain ⟨fs, hr, hrun, hended, hW, hsame⟩ := X22.leave (v := some (.int (1 : Int32))) (fun h => by rw [Bd.returns] at h; cases h)
  refine ⟨_, _, pre0 _ ?_, hrun, hended, _, _, rfl, ?_, ⟨_, rfl⟩, hW, hsame.mono (by decide) (by decide)⟩
  · show Steps p.tables e below (s₁.setTop (mkF m 0 #[.val (.int p1), .val (.int p2), .unset, .unset, .unset, .unset, .unset, .unset, .unset, .unset] [])) _
    refine XS.iconst X0.here hx rfl (hb hby at_0) ?_
    show Steps p.tables e below (s₁.setTop (mkF m 1 #[.val (.int p1), .val (.int p2), .unset, .unset, .unset, .unset, .unset, .unset, .unset, .unset] [(.int (4 : Int32))])) _
    refine st3 _ ?_
    show Steps p.tables e below (T3.setTop (mkF m 4 #[.val (.int p1), .val (.int p2), .unset, .unset, .unset, .unset, .unset, .unset, .unset, .unset] [(.ref b3)])) _
    refine XS.dup X3.here hx rfl (hb hby at_4) rfl rfl ?_
    show Steps p.tables e below (T3.setTop (mkF m 5 #[.val (.int p1), .val (.int p2), .unset, .unset, .unset, .unset, .unset, .unset, .unset, .unset] [(.ref b3), (.ref b3)])) _
    refine XS.iconst X3.here hx rfl (hb hby at_5) ?_
    show Steps p.tables e below (T3.setTop (mkF m 6 #[.val (.int p1), .val (.int p2), .unset, .unset, .unset, .unset, .unset, .unset, .unset, .unset] [(.int (0 : Int32)), (.ref b3), (.ref b3)])) _
    refine st5 _ ?_
    show Steps p.tables e below (T5.setTop (mkF m 9 #[.val (.int p1), .val (.int p2), .unset, .unset, .unset, .unset, .unset, .unset, .unset, .unset] [(.ref w4), (.int (0 : Int32)), (.ref b3), (.ref b3)])) _
    refine st6 _ ?_
    show Steps p.tables e below (T6.setTop (mkF m 10 #[.val (.int p1), .val (.int p2), .unset, .unset, .unset, .unset, .unset, .unset, .unset, .unset] [(.ref b3)])) _
    refine XS.dup X6.here hx rfl (hb hby at_10) rfl rfl ?_
    show Steps p.tables e below (T6.setTop (mkF m 11 #[.val (.int p1), .val (.int p2), .unset, .unset, .unset, .unset, .unset, .unset, .unset, .unset] [(.ref b3), (.ref b3)])) _
    refine XS.iconst X6.here hx rfl (hb hby at_11) ?_
    show Steps p.tables e below (T6.setTop (mkF m 12 #[.val (.int p1), .val (.int p2), .unset, .unset, .unset, .unset, .unset, .unset, .unset, .unset] [(.int (1 : Int32)), (.ref b3), (.ref b3)])) _
    refine st8 _ ?_
    show Steps p.tables e below (T8.setTop (mkF m 15 #[.val (.int p1), .val (.int p2), .unset, .unset, .unset, .unset, .unset, .unset, .unset, .unset] [(.ref w7), (.int (1 : Int32)), (.ref b3), (.ref b3)])) _
    refine st9 _ ?_
    show Steps p.tables e below (T9.setTop (mkF m 16 #[.val (.int p1), .val (.int p2), .unset, .unset, .unset, .unset, .unset, .unset, .unset, .unset] [(.ref b3)])) _
    refine XS.dup X9.here hx rfl (hb hby at_16) rfl rfl ?_
    show Steps p.tables e below (T9.setTop (mkF m 17 #[.val (.int p1), .val (.int p2), .unset, .unset, .unset, .unset, .unset, .unset, .unset, .unset] [(.ref b3), (.ref b3)])) _
    refine XS.iconst X9.here hx rfl (hb hby at_17) ?_
    show Steps p.tables e below (T9.setTop (mkF m 18 #[.val (.int p1), .val (.int p2), .unset, .unset, .unset, .unset, .unset, .unset, .unset, .unset] [(.int (2 : Int32)), (.ref b3), (.ref b3)])) _
    refine st11 _ ?_
    show Steps p.tables e below (T11.setTop (mkF m 21 #[.val (.int p1), .val (.int p2), .unset, .unset, .unset, .unset, .unset, .unset, .unset, .unset] [(.ref w10), (.int (2 : Int32)), (.ref b3), (.ref b3)])) _
    refine st12 _ ?_
    show Steps p.tables e below (T12.setTop (mkF m 22 #[.val (.int p1), .val (.int p2), .unset, .unset, .unset, .unset, .unset, .unset, .unset, .unset] [(.ref b3)])) _
    refine XS.dup X12.here hx rfl (hb hby at_22) rfl rfl ?_
    show Steps p.tables e below (T12.setTop (mkF m 23 #[.val (.int p1), .val (.int p2), .unset, .unset, .unset, .unset, .unset, .unset, .unset, .unset] [(.ref b3), (.ref b3)])) _
    refine XS.iconst X12.here hx rfl (hb hby at_23) ?_
    show Steps p.tables e below (T12.setTop (mkF m 24 #[.val (.int p1), .val (.int p2), .unset, .unset, .unset, .unset, .unset, .unset, .unset, .unset] [(.int (3 : Int32)), (.ref b3), (.ref b3)])) _
    refine st14 _ ?_
    show Steps p.tables e below (T14.setTop (mkF m 27 #[.val (.int p1), .val (.int p2), .unset, .unset, .unset, .unset, .unset, .unset, .unset, .unset] [(.ref w13), (.int (3 : Int32)), (.ref b3), (.ref b3)])) _
    refine st15 _ ?_
    show Steps p.tables e below (T15.setTop (mkF m 28 #[.val (.int p1), .val (.int p2), .unset, .unset, .unset, .unset, .unset, .unset, .unset, .unset] [(.ref b3)])) _
    refine XS.astoreN X15.here hx rfl (hb hby at_28) rfl rfl (l' := #[.val (.int p1), .val (.int p2), .val (.ref b3), .unset, .unset, .unset, .unset, .unset, .unset, .unset]) rfl ?_
    show Steps p.tables e below (T15.setTop (mkF m 29 #[.val (.int p1), .val (.int p2), .val (.ref b3), .unset, .unset, .unset, .unset, .unset, .unset, .unset] [])) _
    refine XS.aloadN X15.here hx rfl (hb hby at_29) rfl rfl ?_
    show Steps p.tables e below (T15.setTop (mkF m 30 #[.val (.int p1), .val (.int p2), .val (.ref b3), .unset, .unset, .unset, .unset, .unset, .unset, .unset] [(.ref b3)])) _
    refine XS.iloadN X15.here hx rfl (hb hby at_30) rfl ?_
    show Steps p.tables e below (T15.setTop (mkF m 31 #[.val (.int p1), .val (.int p2), .val (.ref b3), .unset, .unset, .unset, .unset, .unset, .unset, .unset] [(.int p1), (.ref b3)])) _
    refine XS.iconst X15.here hx rfl (hb hby at_31) ?_
    show Steps p.tables e below (T15.setTop (mkF m 32 #[.val (.int p1), .val (.int p2), .val (.ref b3), .unset, .unset, .unset, .unset, .unset, .unset, .unset] [(.int (3 : Int32)), (.int p1), (.ref b3)])) _
    refine XS.iand X15.here hx rfl (hb hby at_32) rfl ?_
    show Steps p.tables e below (T15.setTop (mkF m 33 #[.val (.int p1), .val (.int p2), .val (.ref b3), .unset, .unset, .unset, .unset, .unset, .unset, .unset] [(.int (p1 &&& (3 : Int32))), (.ref b3)])) _
    rw [hk]
    show Steps p.tables e below (T15.setTop (mkF m 33 #[.val (.int p1), .val (.int p2), .val (.ref b3), .unset, .unset, .unset, .unset, .unset, .unset, .unset] [(.int (2 : Int32)), (.ref b3)])) _
    refine X15.aaload hx (j := (2 : Int32)) (v := (.ref w10)) (by rw [e15]; exact Ar_b3.1) (State.isArrayOf_alike hZ.alike Ar_b3.2.1) rfl Ar_b3.2.2 hin33 hat33 (g := (mkF m 33 #[.val (.int p1), .val (.int p2), .val (.ref b3), .unset, .unset, .unset, .unset, .unset, .unset, .unset] [(.int (2 : Int32)), (.ref b3)])) rfl rfl (hb hby at_33) _ ?_
    show Steps p.tables e below (T15.setTop (mkF m 34 #[.val (.int p1), .val (.int p2), .val (.ref b3), .unset, .unset, .unset, .unset, .unset, .unset, .unset] [(.ref w10)])) _
    refine XS.astoreN X15.here hx rfl (hb hby at_34) rfl rfl (l' := #[.val (.int p1), .val (.int p2), .val (.ref b3), .val (.ref w10), .unset, .unset, .unset, .unset, .unset, .unset]) rfl ?_
    show Steps p.tables e below (T15.setTop (mkF m 35 #[.val (.int p1), .val (.int p2), .val (.ref b3), .val (.ref w10), .unset, .unset, .unset, .unset, .unset, .unset] [])) _
    refine own_pB _ _ _ _ _ _ _ _ _ _ o X15 hx hZ hw hby hml hown e15 One.u ho _ ?_
    show Steps p.tables e below (T15.setTop (mkF m 54 #[.val (.int p1), .val (.int p2), .val (.ref b3), .val (.ref w10), .val (.int o), .unset, .unset, .unset, .unset, .unset] [])) _
    refine XS.aloadN X15.here hx rfl (hb hby at_54) rfl rfl ?_
    show Steps p.tables e below (T15.setTop (mkF m 55 #[.val (.int p1), .val (.int p2), .val (.ref b3), .val (.ref w10), .val (.int o), .unset, .unset, .unset, .unset, .unset] [(.ref w10)])) _
    refine st17.trans ?_
    show Steps p.tables e below (T17.setTop (mkF m 58 #[.val (.int p1), .val (.int p2), .val (.ref b3), .val (.ref w10), .val (.int o), .unset, .unset, .unset, .unset, .unset] [(.ref sy)])) _
    refine XS.astore X17.here hx rfl (hb hby at_58) rfl rfl (l' := #[.val (.int p1), .val (.int p2), .val (.ref b3), .val (.ref w10), .val (.int o), .val (.ref sy), .unset, .unset, .unset, .unset]) rfl ?_
    show Steps p.tables e below (T17.setTop (mkF m 60 #[.val (.int p1), .val (.int p2), .val (.ref b3), .val (.ref w10), .val (.int o), .val (.ref sy), .unset, .unset, .unset, .unset] [])) _
    refine XS.aload X17.here hx rfl (hb hby at_60) rfl rfl ?_
    show Steps p.tables e below (T17.setTop (mkF m 62 #[.val (.int p1), .val (.int p2), .val (.ref b3), .val (.ref w10), .val (.int o), .val (.ref sy), .unset, .unset, .unset, .unset] [(.ref sy)])) _
    refine st18.trans ?_
    show Steps p.tables e below (T18.setTop (mkF m 65 #[.val (.int p1), .val (.int p2), .val (.ref b3), .val (.ref w10), .val (.int o), .val (.ref sy), .unset, .unset, .unset, .unset] [(.int (0 : Int32))])) _
    refine XS.ifYes X18.here hx rfl (pc0 := 65) (pc' := 70) rfl (hb hby at_65) rfl ((if0 _ _).trans (teq (rfl : (0 : Int32) = (0 : Int32))).1) (by decide) (by decide) ?_
    show Steps p.tables e below (T18.setTop (mkF m 70 #[.val (.int p1), .val (.int p2), .val (.ref b3), .val (.ref w10), .val (.int o), .val (.ref sy), .unset, .unset, .unset, .unset] [])) _
    refine XS.aload X18.here hx rfl (hb hby at_70) rfl rfl ?_
    show Steps p.tables e below (T18.setTop (mkF m 72 #[.val (.int p1), .val (.int p2), .val (.ref b3), .val (.ref w10), .val (.int o), .val (.ref sy), .unset, .unset, .unset, .unset] [(.ref sy)])) _
    refine XS.iconst X18.here hx rfl (hb hby at_72) ?_
    show Steps p.tables e below (T18.setTop (mkF m 73 #[.val (.int p1), .val (.int p2), .val (.ref b3), .val (.ref w10), .val (.int o), .val (.ref sy), .unset, .unset, .unset, .unset] [(.int (0 : Int32)), (.ref sy)])) _
    refine st19.trans ?_
    show Steps p.tables e below (T19.setTop (mkF m 76 #[.val (.int p1), .val (.int p2), .val (.ref b3), .val (.ref w10), .val (.int o), .val (.ref sy), .unset, .unset, .unset, .unset] [(.int (62 : Int32))])) _
    refine XS.bipush X19.here hx rfl (hb hby at_76) ?_
    show Steps p.tables e below (T19.setTop (mkF m 78 #[.val (.int p1), .val (.int p2), .val (.ref b3), .val (.ref w10), .val (.int o), .val (.ref sy), .unset, .unset, .unset, .unset] [(.int (60 : Int32)), (.int (62 : Int32))])) _
    refine XS.icmpYes X19.here hx rfl (pc0 := 78) (pc' := 85) rfl (hb hby at_78) rfl (feq (by decide : ¬ ((62 : Int32) = (60 : Int32)))).2 (by decide) (by decide) ?_
    show Steps p.tables e below (T19.setTop (mkF m 85 #[.val (.int p1), .val (.int p2), .val (.ref b3), .val (.ref w10), .val (.int o), .val (.ref sy), .unset, .unset, .unset, .unset] [])) _
    refine XS.iconst X19.here hx rfl (hb hby at_85) ?_
    show Steps p.tables e below (T19.setTop (mkF m 86 #[.val (.int p1), .val (.int p2), .val (.ref b3), .val (.ref w10), .val (.int o), .val (.ref sy), .unset, .unset, .unset, .unset] [(.int (0 : Int32))])) _
    refine XS.istore X19.here hx rfl (hb hby at_86) rfl (l' := #[.val (.int p1), .val (.int p2), .val (.ref b3), .val (.ref w10), .val (.int o), .val (.ref sy), .val (.int (0 : Int32)), .unset, .unset, .unset]) rfl ?_
    show Steps p.tables e below (T19.setTop (mkF m 88 #[.val (.int p1), .val (.int p2), .val (.ref b3), .val (.ref w10), .val (.int o), .val (.ref sy), .val (.int (0 : Int32)), .unset, .unset, .unset] [])) _
    refine XS.aload X19.here hx rfl (hb hby at_88) rfl rfl ?_
    show Steps p.tables e below (T19.setTop (mkF m 90 #[.val (.int p1), .val (.int p2), .val (.ref b3), .val (.ref w10), .val (.int o), .val (.ref sy), .val (.int (0 : Int32)), .unset, .unset, .unset] [(.ref sy)])) _
    refine XS.iconst X19.here hx rfl (hb hby at_90) ?_
    show Steps p.tables e below (T19.setTop (mkF m 91 #[.val (.int p1), .val (.int p2), .val (.ref b3), .val (.ref w10), .val (.int o), .val (.ref sy), .val (.int (0 : Int32)), .unset, .unset, .unset] [(.int (0 : Int32)), (.ref sy)])) _
    refine st20.trans ?_
    show Steps p.tables e below (T20.setTop (mkF m 94 #[.val (.int p1), .val (.int p2), .val (.ref b3), .val (.ref w10), .val (.int o), .val (.ref sy), .val (.int (0 : Int32)), .unset, .unset, .unset] [(.int (62 : Int32))])) _
    refine XS.bipush X20.here hx rfl (hb hby at_94) ?_
    show Steps p.tables e below (T20.setTop (mkF m 96 #[.val (.int p1), .val (.int p2), .val (.ref b3), .val (.ref w10), .val (.int o), .val (.ref sy), .val (.int (0 : Int32)), .unset, .unset, .unset] [(.int (62 : Int32)), (.int (62 : Int32))])) _
    refine XS.icmpNo X20.here hx rfl (hb hby at_96) rfl (teq (rfl : (62 : Int32) = (62 : Int32))).2 ?_
    show Steps p.tables e below (T20.setTop (mkF m 99 #[.val (.int p1), .val (.int p2), .val (.ref b3), .val (.ref w10), .val (.int o), .val (.ref sy), .val (.int (0 : Int32)), .unset, .unset, .unset] [])) _
    refine XS.iconst X20.here hx rfl (hb hby at_99) ?_
    show Steps p.tables e below (T20.setTop (mkF m 100 #[.val (.int p1), .val (.int p2), .val (.ref b3), .val (.ref w10), .val (.int o), .val (.ref sy), .val (.int (0 : Int32)), .unset, .unset, .unset] [(.int (1 : Int32))])) _
    refine XS.goto X20.here hx rfl (pc0 := 100) (pc' := 104) rfl (hb hby at_100) (by decide) (by decide) ?_
    show Steps p.tables e below (T20.setTop (mkF m 104 #[.val (.int p1), .val (.int p2), .val (.ref b3), .val (.ref w10), .val (.int o), .val (.ref sy), .val (.int (0 : Int32)), .unset, .unset, .unset] [(.int (1 : Int32))])) _
    refine XS.istore X20.here hx rfl (hb hby at_104) rfl (l' := #[.val (.int p1), .val (.int p2), .val (.ref b3), .val (.ref w10), .val (.int o), .val (.ref sy), .val (.int (0 : Int32)), .val (.int (1 : Int32)), .unset, .unset]) rfl ?_
    show Steps p.tables e below (T20.setTop (mkF m 106 #[.val (.int p1), .val (.int p2), .val (.ref b3), .val (.ref w10), .val (.int o), .val (.ref sy), .val (.int (0 : Int32)), .val (.int (1 : Int32)), .unset, .unset] [])) _
    refine XS.aload X20.here hx rfl (hb hby at_106) rfl rfl ?_
    show Steps p.tables e below (T20.setTop (mkF m 108 #[.val (.int p1), .val (.int p2), .val (.ref b3), .val (.ref w10), .val (.int o), .val (.ref sy), .val (.int (0 : Int32)), .val (.int (1 : Int32)), .unset, .unset] [(.ref sy)])) _
    refine st21.trans ?_
    show Steps p.tables e below (T21.setTop (mkF m 111 #[.val (.int p1), .val (.int p2), .val (.ref b3), .val (.ref w10), .val (.int o), .val (.ref sy), .val (.int (0 : Int32)), .val (.int (1 : Int32)), .unset, .unset] [(.int (1 : Int32))])) _
    refine XS.iconst X21.here hx rfl (hb hby at_111) ?_
    show Steps p.tables e below (T21.setTop (mkF m 112 #[.val (.int p1), .val (.int p2), .val (.ref b3), .val (.ref w10), .val (.int o), .val (.ref sy), .val (.int (0 : Int32)), .val (.int (1 : Int32)), .unset, .unset] [(.int (2 : Int32)), (.int (1 : Int32))])) _
    refine XS.icmpYes X21.here hx rfl (pc0 := 112) (pc' := 130) rfl (hb hby at_112) rfl (feq (by decide : ¬ ((1 : Int32) = (2 : Int32)))).2 (by decide) (by decide) ?_
    show Steps p.tables e below (T21.setTop (mkF m 130 #[.val (.int p1), .val (.int p2), .val (.ref b3), .val (.ref w10), .val (.int o), .val (.ref sy), .val (.int (0 : Int32)), .val (.int (1 : Int32)), .unset, .unset] [])) _
    refine XS.iconst X21.here hx rfl (hb hby at_130) ?_
    show Steps p.tables e below (T21.setTop (mkF m 131 #[.val (.int p1), .val (.int p2), .val (.ref b3), .val (.ref w10), .val (.int o), .val (.ref sy), .val (.int (0 : Int32)), .val (.int (1 : Int32)), .unset, .unset] [(.int (0 : Int32))])) _
    refine XS.istore X21.here hx rfl (hb hby at_131) rfl (l' := #[.val (.int p1), .val (.int p2), .val (.ref b3), .val (.ref w10), .val (.int o), .val (.ref sy), .val (.int (0 : Int32)), .val (.int (1 : Int32)), .val (.int (0 : Int32)), .unset]) rfl ?_
    show Steps p.tables e below (T21.setTop (mkF m 133 #[.val (.int p1), .val (.int p2), .val (.ref b3), .val (.ref w10), .val (.int o), .val (.ref sy), .val (.int (0 : Int32)), .val (.int (1 : Int32)), .val (.int (0 : Int32)), .unset] [])) _
    refine own_pD _ _ _ _ _ _ _ _ _ _ xx X21 hx hZ hw hby hml hown e21 One.u hxx _ ?_
    show Steps p.tables e below (T21.setTop (mkF m 161 #[.val (.int p1), .val (.int p2), .val (.ref b3), .val (.ref w10), .val (.int o), .val (.ref sy), .val (.int (0 : Int32)), .val (.int (1 : Int32)), .val (.int (0 : Int32)), .val (.int xx)] [])) _
    refine XS.aloadN X21.here hx rfl (hb hby at_161) rfl rfl ?_
    show Steps p.tables e below (T21.setTop (mkF m 162 #[.val (.int p1), .val (.int p2), .val (.ref b3), .val (.ref w10), .val (.int o), .val (.ref sy), .val (.int (0 : Int32)), .val (.int (1 : Int32)), .val (.int (0 : Int32)), .val (.int xx)] [(.ref w10)])) _
    refine XS.iload X21.here hx rfl (hb hby at_162) rfl ?_
    show Steps p.tables e below (T21.setTop (mkF m 164 #[.val (.int p1), .val (.int p2), .val (.ref b3), .val (.ref w10), .val (.int o), .val (.ref sy), .val (.int (0 : Int32)), .val (.int (1 : Int32)), .val (.int (0 : Int32)), .val (.int xx)] [(.int o), (.ref w10)])) _
    refine st22.trans ?_
    show Steps p.tables e below (T22.setTop (mkF m 167 #[.val (.int p1), .val (.int p2), .val (.ref b3), .val (.ref w10), .val (.int o), .val (.ref sy), .val (.int (0 : Int32)), .val (.int (1 : Int32)), .val (.int (0 : Int32)), .val (.int xx)] [(.int xx)])) _
    refine XS.iload X22.here hx rfl (hb hby at_167) rfl ?_
    show Steps p.tables e below (T22.setTop (mkF m 169 #[.val (.int p1), .val (.int p2), .val (.ref b3), .val (.ref w10), .val (.int o), .val (.ref sy), .val (.int (0 : Int32)), .val (.int (1 : Int32)), .val (.int (0 : Int32)), .val (.int xx)] [(.int xx), (.int xx)])) _
    refine XS.icmpNo X22.here hx rfl (hb hby at_169) rfl (teq (rfl : xx = xx)).2 ?_
    show Steps p.tables e below (T22.setTop (mkF m 172 #[.val (.int p1), .val (.int p2), .val (.ref b3), .val (.ref w10), .val (.int o), .val (.ref sy), .val (.int (0 : Int32)), .val (.int (1 : Int32)), .val (.int (0 : Int32)), .val (.int xx)] [])) _
    refine XS.iconst X22.here hx rfl (hb hby at_172) ?_
    show Steps p.tables e below (T22.setTop (mkF m 173 #[.val (.int p1), .val (.int p2), .val (.ref b3), .val (.ref w10), .val (.int o), .val (.ref sy), .val (.int (0 : Int32)), .val (.int (1 : Int32)), .val (.int (0 : Int32)), .val (.int xx)] [(.int (1 : Int32))])) _
    refine XS.goto X22.here hx rfl (pc0 := 173) (pc' := 177) rfl (hb hby at_173) (by decide) (by decide) ?_
    show Steps p.tables e below (T22.setTop (mkF m 177 #[.val (.int p1), .val (.int p2), .val (.ref b3), .val (.ref w10), .val (.int o), .val (.ref sy), .val (.int (0 : Int32)), .val (.int (1 : Int32)), .val (.int (0 : Int32)), .val (.int xx)] [(.int (1 : Int32))])) _
    exact retN X22 hx (t := .boolean) Bd.returns (by simp) (hb hby at_177) hr
  · show Q0 Z p1 p2 h0 n0 _ T22.heap _
    exact ⟨rfl, N22⟩

set_option maxRecDepth 65536 in
set_option maxHeartbeats 40000000 in
theorem rm0_3 (l : Launch) (Z : State) (a0 : Array Value) (hw : ∀ d ∈ tables_1, d.before a0 Z = true) (ws : List Jvm.Cond) (p1 : Int32) (p2 : Int32) (w4 w7 w10 w13 : Addr) (h0 : Heap) (n0 : Nat) (Z0 : n0 ≤ h0.size) (S_LESS : Sta Z h0 "com/example/balanza/balanza/logic/Comparison" "LESS" "Lcom/example/balanza/balanza/logic/Comparison;" (.ref w4)) (S_AT_MOST : Sta Z h0 "com/example/balanza/balanza/logic/Comparison" "AT_MOST" "Lcom/example/balanza/balanza/logic/Comparison;" (.ref w7)) (S_GREATER : Sta Z h0 "com/example/balanza/balanza/logic/Comparison" "GREATER" "Lcom/example/balanza/balanza/logic/Comparison;" (.ref w10)) (S_AT_LEAST : Sta Z h0 "com/example/balanza/balanza/logic/Comparison" "AT_LEAST" "Lcom/example/balanza/balanza/logic/Comparison;" (.ref w13)) (E_0 : Exa Z h0 w4 "com/example/balanza/balanza/logic/Comparison") (E_1 : Exa Z h0 w7 "com/example/balanza/balanza/logic/Comparison") (E_2 : Exa Z h0 w10 "com/example/balanza/balanza/logic/Comparison") (E_3 : Exa Z h0 w13 "com/example/balanza/balanza/logic/Comparison") (cw : Int32) (Scw : Sta Z h0 "java/lang/String" "COMPACT_STRINGS" "Z" (.int cw)) (hcw : ¬ (cw = (0 : Int32))) (fr : Value) (Sfr : Sta Z h0 "jdk/internal/util/Preconditions" "SIOOBE_FORMATTER" "Ljava/util/function/BiFunction;" fr) (hfr : fr.isRef = true) (CX : own_C Z h0 w13 (3 : Int32) (2 : Int32) [(.int (62 : Int32)), (.int (61 : Int32))]) (hk : (p1 &&& (3 : Int32)) = (3 : Int32)) :
    MetFree l x (head1 (Jvm.Cond.code x code maxLocals ret :: ws) room_1) (fun a U => a = #[(.int p1), (.int p2)] ∧ Z.Warmed39 U.vm ∧ U.heap = h0) (fun _ _ _ _ _ => True) (fun _ U o U' => ∃ v L, o = .returned v ∧ Q0 Z p1 p2 h0 n0 v U'.heap L ∧ FrameEnd U o U' L room_1.cells room_1.slots) := by
  refine MetFree.of_bodySF (plainFor_of_name pn_0) hisR ?_
  intro p e s m args below meth c s₁ Bd hml0 hP hK
  obtain ⟨rfl, hZ, hh⟩ := hP
  have hx := Bd.exec
  have hby := Bd.bytes
  have hml : c.maxLocals = 10 := hml0
  have hown : s.vm.findClass "com/example/balanza/balanza/logic/ComparisonHoldsPinLaw" = some m.cls := findClass_of_methodNamed Bd.named
  have hnm := (name_of_methodNamed Bd.named Bd.method).1
  have X0 : Stand p l e room_1 s m #[(.int p1), (.int p2)] below meth c s₁ [] 0 0 := Stand.of_body Bd
  have e0 : s₁.heap = h0 := by rw [← hh, Bd.state]; rfl
  have N0 := Fr.nil n0
  have pre0 : ∀ t, Steps p.tables e below (s₁.setTop (mkF m 0 #[.val (.int p1), .val (.int p2), .unset, .unset, .unset, .unset, .unset, .unset, .unset, .unset] [])) t → Steps p.tables e below (s₁.setTop (entryFrame m #[(.int p1), (.int p2)] maxLocals)) t := fun t k => castTop (ef_0 m p1 p2) k
  obtain ⟨o, ho⟩ := own_o_all p1 p2
  obtain ⟨xx, hxx⟩ := own_x_all (0 : Int32) (1 : Int32) (1 : Int32) o
  obtain ⟨T3, h3, k3, X3, e3, E3, A3, O3, st3⟩ := newR X0 hx hZ hown (hw _ (List.mem_of_getElem? (i := 0) rfl)) (hw _ (List.mem_of_getElem? (i := 1) rfl)) e0 (g := (mkF m 1 #[.val (.int p1), .val (.int p2), .unset, .unset, .unset, .unset, .unset, .unset, .unset, .unset] [(.int (4 : Int32))])) rfl (hb hby at_1) rfl (by decide) (cap := 4) (by decide) (by decide) (by decide) (by decide)
  obtain ⟨b3, g3⟩ : ∃ z, z = h0.size := ⟨_, rfl⟩
  rw [← g3] at A3 st3
  have V_b3 : Arv Z h3 b3 k3 (.object "com/example/balanza/balanza/logic/Comparison") (4 : Int32) [.null, .null, .null, .null] .null := (Arv.new A3 (by decide)).pad (pad_rep [] .null 4)
  have g_b3 : n0 ≤ b3 := Nat.le_trans Z0 (Nat.le_of_eq g3.symm)
  have sz_b3 : h0.size ≤ b3 := (Nat.le_trans (Keep.refl h0 []).1 (Nat.le_of_eq g3.symm))
  have K3 : Keep h0 h3 [] := (Keep.refl h0 []).ext E3
  obtain ⟨T5, X5, e5, st5⟩ := getS2 X3 hx hZ hown (host := "") (Or.inl (hw _ (List.mem_of_getElem? (i := 2) rfl))) Via.refl e3 (S_LESS.ext E3) (g := (mkF m 6 #[.val (.int p1), .val (.int p2), .unset, .unset, .unset, .unset, .unset, .unset, .unset, .unset] [(.int (0 : Int32)), (.ref b3), (.ref b3)])) rfl (hb hby at_6)
  obtain ⟨cl_0, Ar_b3, q_b3, S_b3, N_b3, H_b3, G_b3⟩ := V_b3
  have hin9 : ¬ ((0 : Int32) < 0 ∨ cl_0.slots.size ≤ ((0 : Int32)).toNatClampNeg) := inb_of S_b3 ⟨by decide, by decide⟩
  have Sto9 := Sto.ofV Ar_b3 q_b3 O3 (Ins.self (E_0.ext E3))
  obtain ⟨T6, h6, X6, e6, W6, st6⟩ := stR X5 hx hZ e5 Ar_b3 (j := (0 : Int32)) hin9 rfl Sto9 (g := (mkF m 9 #[.val (.int p1), .val (.int p2), .unset, .unset, .unset, .unset, .unset, .unset, .unset, .unset] [(.ref w4), (.int (0 : Int32)), (.ref b3), (.ref b3)])) rfl rfl (hb hby at_9)
  have V_b3_6 := Arv.set Ar_b3 q_b3 S_b3 N_b3 H_b3 G_b3 rfl W6 0 rfl (Nat.le_of_ble_eq_true rfl)
  have N6 := Fr.snoc X6 N0 g_b3
  have K6 : Keep h0 h6 [] := K3.wr W6 (Or.inr sz_b3)
  obtain ⟨T8, X8, e8, st8⟩ := getS2 X6 hx hZ hown (host := "") (Or.inl (hw _ (List.mem_of_getElem? (i := 6) rfl))) Via.refl e6 ((S_AT_MOST.ext E3).wr W6) (g := (mkF m 12 #[.val (.int p1), .val (.int p2), .unset, .unset, .unset, .unset, .unset, .unset, .unset, .unset] [(.int (1 : Int32)), (.ref b3), (.ref b3)])) rfl (hb hby at_12)
  obtain ⟨cl_1, Ar_b3, q_b3, S_b3, N_b3, H_b3, G_b3⟩ := V_b3_6
  have hin15 : ¬ ((1 : Int32) < 0 ∨ cl_1.slots.size ≤ ((1 : Int32)).toNatClampNeg) := inb_of S_b3 ⟨by decide, by decide⟩
  have Sto15 := Sto.ofV Ar_b3 q_b3 O3 (Ins.self ((E_1.ext E3).wr W6))
  obtain ⟨T9, h9, X9, e9, W9, st9⟩ := stR X8 hx hZ e8 Ar_b3 (j := (1 : Int32)) hin15 rfl Sto15 (g := (mkF m 15 #[.val (.int p1), .val (.int p2), .unset, .unset, .unset, .unset, .unset, .unset, .unset, .unset] [(.ref w7), (.int (1 : Int32)), (.ref b3), (.ref b3)])) rfl rfl (hb hby at_15)
  have V_b3_9 := Arv.set Ar_b3 q_b3 S_b3 N_b3 H_b3 G_b3 rfl W9 1 rfl (Nat.le_of_ble_eq_true rfl)
  have N9 := Fr.snoc X9 N6 g_b3
  have K9 : Keep h0 h9 [] := K6.wr W9 (Or.inr sz_b3)
  obtain ⟨T11, X11, e11, st11⟩ := getS2 X9 hx hZ hown (host := "") (Or.inl (hw _ (List.mem_of_getElem? (i := 8) rfl))) Via.refl e9 (((S_GREATER.ext E3).wr W6).wr W9) (g := (mkF m 18 #[.val (.int p1), .val (.int p2), .unset, .unset, .unset, .unset, .unset, .unset, .unset, .unset] [(.int (2 : Int32)), (.ref b3), (.ref b3)])) rfl (hb hby at_18)
  obtain ⟨cl_2, Ar_b3, q_b3, S_b3, N_b3, H_b3, G_b3⟩ := V_b3_9
  have hin21 : ¬ ((2 : Int32) < 0 ∨ cl_2.slots.size ≤ ((2 : Int32)).toNatClampNeg) := inb_of S_b3 ⟨by decide, by decide⟩
  have Sto21 := Sto.ofV Ar_b3 q_b3 O3 (Ins.self (((E_2.ext E3).wr W6).wr W9))
  obtain ⟨T12, h12, X12, e12, W12, st12⟩ := stR X11 hx hZ e11 Ar_b3 (j := (2 : Int32)) hin21 rfl Sto21 (g := (mkF m 21 #[.val (.int p1), .val (.int p2), .unset, .unset, .unset, .unset, .unset, .unset, .unset, .unset] [(.ref w10), (.int (2 : Int32)), (.ref b3), (.ref b3)])) rfl rfl (hb hby at_21)
  have V_b3_12 := Arv.set Ar_b3 q_b3 S_b3 N_b3 H_b3 G_b3 rfl W12 2 rfl (Nat.le_of_ble_eq_true rfl)
  have N12 := Fr.snoc X12 N9 g_b3
  have K12 : Keep h0 h12 [] := K9.wr W12 (Or.inr sz_b3)
  obtain ⟨T14, X14, e14, st14⟩ := getS2 X12 hx hZ hown (host := "") (Or.inl (hw _ (List.mem_of_getElem? (i := 10) rfl))) Via.refl e12 ((((S_AT_LEAST.ext E3).wr W6).wr W9).wr W12) (g := (mkF m 24 #[.val (.int p1), .val (.int p2), .unset, .unset, .unset, .unset, .unset, .unset, .unset, .unset] [(.int (3 : Int32)), (.ref b3), (.ref b3)])) rfl (hb hby at_24)
  obtain ⟨cl_3, Ar_b3, q_b3, S_b3, N_b3, H_b3, G_b3⟩ := V_b3_12
  have hin27 : ¬ ((3 : Int32) < 0 ∨ cl_3.slots.size ≤ ((3 : Int32)).toNatClampNeg) := inb_of S_b3 ⟨by decide, by decide⟩
  have Sto27 := Sto.ofV Ar_b3 q_b3 O3 (Ins.self ((((E_3.ext E3).wr W6).wr W9).wr W12))
  obtain ⟨T15, h15, X15, e15, W15, st15⟩ := stR X14 hx hZ e14 Ar_b3 (j := (3 : Int32)) hin27 rfl Sto27 (g := (mkF m 27 #[.val (.int p1), .val (.int p2), .unset, .unset, .unset, .unset, .unset, .unset, .unset, .unset] [(.ref w13), (.int (3 : Int32)), (.ref b3), (.ref b3)])) rfl rfl (hb hby at_27)
  have V_b3_15 := Arv.set Ar_b3 q_b3 S_b3 N_b3 H_b3 G_b3 rfl W15 3 rfl (Nat.le_of_ble_eq_true rfl)
  have N15 := Fr.snoc X15 N12 g_b3
  have K15 : Keep h0 h15 [] := K12.wr W15 (Or.inr sz_b3)
  have V15 : Arv Z h15 b3 k3 (.object "com/example/balanza/balanza/logic/Comparison") (4 : Int32) [(.ref w4), (.ref w7), (.ref w10), (.ref w13)] .null := V_b3_15
  obtain ⟨cl_9, Ar_b3, q_b3, S_b3, N_b3, H_b3, G_b3⟩ := V15
  have hin33 : ¬ ((3 : Int32) < 0 ∨ cl_9.slots.size ≤ ((3 : Int32)).toNatClampNeg) := inb_of S_b3 ⟨by decide, by decide⟩
  have hat33 : cl_9.slots[((3 : Int32)).toNatClampNeg]? = some (.ref w13) := H_b3.at hin33 rfl
  have Z15 : n0 ≤ h15.size := Nat.le_trans Z0 K15.1
  have Scw15 := ((((Scw.ext E3).wr W6).wr W9).wr W12).wr W15
  have Sfr15 := ((((Sfr.ext E3).wr W6).wr W9).wr W12).wr W15
  obtain ⟨Ew, Fo, sy, va, kv, Fs, Es, Fv, Fc, Vv⟩ := CX.keep K15
  obtain ⟨clv, Av, qv, Sv, Nv, Hv, Gv⟩ := Vv
  have hi0 : ¬ ((0 : Int32) < 0 ∨ clv.slots.size ≤ ((0 : Int32)).toNatClampNeg) := inb_of Sv ⟨by decide, by decide⟩
  have ha0 : clv.slots[((0 : Int32)).toNatClampNeg]? = some (.int (62 : Int32)) := Hv.at hi0 rfl
  have hi1 : ¬ ((1 : Int32) < 0 ∨ clv.slots.size ≤ ((1 : Int32)).toNatClampNeg) := inb_of Sv ⟨by decide, by decide⟩
  have ha1 : clv.slots[((1 : Int32)).toNatClampNeg]? = some (.int (61 : Int32)) := Hv.at hi1 rfl
  obtain ⟨cq17, kq17, q17a, q17b, q17c⟩ := isOf hZ e15 (Ew)
  obtain ⟨_, _, ⟨T17, L17, k17, n17⟩, -, X17, ⟨Lc17, hQ17, l17, y17, z17⟩, st17⟩ := X15.virtualBack hx (y := (⟨"com/example/balanza/balanza/logic/Comparison", "symbol", "()Ljava/lang/String;"⟩ : MethodName)) (z := (⟨"com/example/balanza/balanza/logic/Comparison", "symbol", "()Ljava/lang/String;"⟩ : MethodName)) hown (mvT hZ (hw _ (List.mem_of_getElem? (i := 12) rfl))) (mvT hZ (hw _ (List.mem_of_getElem? (i := 13) rfl))) (notFace_of_selects (args := #[]) (mvT hZ (hw _ (List.mem_of_getElem? (i := 15) rfl)))) (mvT hZ (hw _ (List.mem_of_getElem? (i := 15) rfl))) (mvT hZ (hw _ (List.mem_of_getElem? (i := 14) rfl))) (by decide) (backOf (W := 0) (rm1 l Z a0 hw [] w13 sy h15 n0 Z15 Fs) hZ (hw _ (List.mem_of_getElem? (i := 16) rfl)) (hw _ (List.mem_of_getElem? (i := 3) rfl)) (by decide) (by decide)) q17a q17c (g := (mkF m 55 #[.val (.int p1), .val (.int p2), .val (.ref b3), .val (.ref w13), .val (.int o), .unset, .unset, .unset, .unset, .unset] [(.ref w13)])) rfl (by rw [hml]; rfl) (Steps.refl _) (argsL := []) (rest := []) (lenOf pd_0_0 rfl) rfl (by show 2 * 0 + _ ≤ _; exact Nat.le_of_eq rfl) (hb hby at_55) (fun _ _ => ⟨rfl, e15, (by decide : 1 + 0 ≤ _), (by decide : 4 + 0 ≤ _)⟩)
  dsimp only [Pt.U, Pt.locs, Pt.cells, Pt.slots] at X17 l17 y17 z17 st17 hQ17
  subst l17 y17 z17
  obtain ⟨rfl, N17q, e17⟩ := hQ17
  have N17 := Fr.app N15 N17q
  obtain ⟨cq18, kq18, q18a, q18b, q18c⟩ := isOf hZ e17 (Es)
  obtain ⟨_, _, ⟨T18, L18, k18, n18⟩, -, X18, ⟨Lc18, hQ18, l18, y18, z18⟩, st18⟩ := X17.virtualBack hx (y := (⟨"java/lang/String", "isEmpty", "()Z"⟩ : MethodName)) (z := (⟨"java/lang/String", "isEmpty", "()Z"⟩ : MethodName)) hown (mvT hZ (hw _ (List.mem_of_getElem? (i := 19) rfl))) (mvT hZ (hw _ (List.mem_of_getElem? (i := 20) rfl))) (notFace_of_selects (args := #[]) (mvT hZ (hw _ (List.mem_of_getElem? (i := 22) rfl)))) (mvT hZ (hw _ (List.mem_of_getElem? (i := 22) rfl))) (mvT hZ (hw _ (List.mem_of_getElem? (i := 21) rfl))) (by decide) (backOf (W := 0) (rm2 l Z a0 hw [] sy va clv (2 : Int32) h15 n0 Z15 Fv Av Sv Nv (by decide)) hZ (hw _ (List.mem_of_getElem? (i := 24) rfl)) (hw _ (List.mem_of_getElem? (i := 23) rfl)) (by decide) (by decide)) q18a q18c (g := (mkF m 62 #[.val (.int p1), .val (.int p2), .val (.ref b3), .val (.ref w13), .val (.int o), .val (.ref sy), .unset, .unset, .unset, .unset] [(.ref sy)])) rfl (by rw [hml]; rfl) (Steps.refl _) (argsL := []) (rest := []) (lenOf pd_0_1 rfl) rfl (by show 2 * 0 + _ ≤ _; exact Nat.le_of_eq rfl) (hb hby at_62) (fun _ _ => ⟨rfl, e17, (by decide : 1 + 0 ≤ _), (by decide : 4 + 0 ≤ _)⟩)
  dsimp only [Pt.U, Pt.locs, Pt.cells, Pt.slots] at X18 l18 y18 z18 st18 hQ18
  subst l18 y18 z18
  obtain ⟨rfl, N18q, e18⟩ := hQ18
  have N18 := Fr.app N17 N18q
  obtain ⟨cq19, kq19, q19a, q19b, q19c⟩ := isOf hZ e18 (Es)
  obtain ⟨_, _, ⟨T19, L19, k19, n19⟩, -, X19, ⟨Lc19, hQ19, l19, y19, z19⟩, st19⟩ := X18.virtualBack hx (y := (⟨"java/lang/String", "charAt", "(I)C"⟩ : MethodName)) (z := (⟨"java/lang/String", "charAt", "(I)C"⟩ : MethodName)) hown (mvT hZ (hw _ (List.mem_of_getElem? (i := 27) rfl))) (mvT hZ (hw _ (List.mem_of_getElem? (i := 28) rfl))) (notFace_of_selects (args := #[]) (mvT hZ (hw _ (List.mem_of_getElem? (i := 30) rfl)))) (mvT hZ (hw _ (List.mem_of_getElem? (i := 30) rfl))) (mvT hZ (hw _ (List.mem_of_getElem? (i := 29) rfl))) (by decide) (backOf (W := 0) (rm3 l Z a0 hw [] sy (0 : Int32) va clv (2 : Int32) (62 : Int32) (62 : Int32) fr cw h15 n0 Z15 Es Fv Fc Av Sv Nv hi0 ha0 (by decide) (by decide) Scw15 hcw Sfr15 hfr (by decide) (by decide)) hZ (hw _ (List.mem_of_getElem? (i := 31) rfl)) (hw _ (List.mem_of_getElem? (i := 23) rfl)) (by decide) (by decide)) q19a q19c (g := (mkF m 73 #[.val (.int p1), .val (.int p2), .val (.ref b3), .val (.ref w13), .val (.int o), .val (.ref sy), .unset, .unset, .unset, .unset] [(.int (0 : Int32)), (.ref sy)])) rfl (by rw [hml]; rfl) (Steps.refl _) (argsL := [(.int (0 : Int32))]) (rest := []) (lenOf pd_0_2 rfl) rfl (by show 2 * 0 + _ ≤ _; exact Nat.le_of_eq rfl) (hb hby at_73) (fun _ _ => ⟨rfl, e18, (by decide : 1 + 0 ≤ _), (by decide : 4 + 0 ≤ _)⟩)
  dsimp only [Pt.U, Pt.locs, Pt.cells, Pt.slots] at X19 l19 y19 z19 st19 hQ19
  subst l19 y19 z19
  obtain ⟨rfl, N19q, e19⟩ := hQ19
  have N19 := Fr.app N18 N19q
  obtain ⟨cq20, kq20, q20a, q20b, q20c⟩ := isOf hZ e19 (Es)
  obtain ⟨_, _, ⟨T20, L20, k20, n20⟩, -, X20, ⟨Lc20, hQ20, l20, y20, z20⟩, st20⟩ := X19.virtualBack hx (y := (⟨"java/lang/String", "charAt", "(I)C"⟩ : MethodName)) (z := (⟨"java/lang/String", "charAt", "(I)C"⟩ : MethodName)) hown (mvT hZ (hw _ (List.mem_of_getElem? (i := 27) rfl))) (mvT hZ (hw _ (List.mem_of_getElem? (i := 28) rfl))) (notFace_of_selects (args := #[]) (mvT hZ (hw _ (List.mem_of_getElem? (i := 30) rfl)))) (mvT hZ (hw _ (List.mem_of_getElem? (i := 30) rfl))) (mvT hZ (hw _ (List.mem_of_getElem? (i := 29) rfl))) (by decide) (backOf (W := 0) (rm3 l Z a0 hw [] sy (0 : Int32) va clv (2 : Int32) (62 : Int32) (62 : Int32) fr cw h15 n0 Z15 Es Fv Fc Av Sv Nv hi0 ha0 (by decide) (by decide) Scw15 hcw Sfr15 hfr (by decide) (by decide)) hZ (hw _ (List.mem_of_getElem? (i := 31) rfl)) (hw _ (List.mem_of_getElem? (i := 23) rfl)) (by decide) (by decide)) q20a q20c (g := (mkF m 91 #[.val (.int p1), .val (.int p2), .val (.ref b3), .val (.ref w13), .val (.int o), .val (.ref sy), .val (.int (0 : Int32)), .unset, .unset, .unset] [(.int (0 : Int32)), (.ref sy)])) rfl (by rw [hml]; rfl) (Steps.refl _) (argsL := [(.int (0 : Int32))]) (rest := []) (lenOf pd_0_2 rfl) rfl (by show 2 * 0 + _ ≤ _; exact Nat.le_of_eq rfl) (hb hby at_91) (fun _ _ => ⟨rfl, e19, (by decide : 1 + 0 ≤ _), (by decide : 4 + 0 ≤ _)⟩)
  dsimp only [Pt.U, Pt.locs, Pt.cells, Pt.slots] at X20 l20 y20 z20 st20 hQ20
  subst l20 y20 z20
  obtain ⟨rfl, N20q, e20⟩ := hQ20
  have N20 := Fr.app N19 N20q
  obtain ⟨cq21, kq21, q21a, q21b, q21c⟩ := isOf hZ e20 (Es)
  obtain ⟨_, _, ⟨T21, L21, k21, n21⟩, -, X21, ⟨Lc21, hQ21, l21, y21, z21⟩, st21⟩ := X20.virtualBack hx (y := (⟨"java/lang/String", "length", "()I"⟩ : MethodName)) (z := (⟨"java/lang/String", "length", "()I"⟩ : MethodName)) hown (mvT hZ (hw _ (List.mem_of_getElem? (i := 52) rfl))) (mvT hZ (hw _ (List.mem_of_getElem? (i := 53) rfl))) (notFace_of_selects (args := #[]) (mvT hZ (hw _ (List.mem_of_getElem? (i := 55) rfl)))) (mvT hZ (hw _ (List.mem_of_getElem? (i := 55) rfl))) (mvT hZ (hw _ (List.mem_of_getElem? (i := 54) rfl))) (by decide) (backOf (W := 0) (rm8 l Z a0 hw [] sy va clv (2 : Int32) (2 : Int32) cw h15 n0 Z15 Fv Av Sv Nv Es Fc Scw15 hcw (by decide)) hZ (hw _ (List.mem_of_getElem? (i := 56) rfl)) (hw _ (List.mem_of_getElem? (i := 23) rfl)) (by decide) (by decide)) q21a q21c (g := (mkF m 108 #[.val (.int p1), .val (.int p2), .val (.ref b3), .val (.ref w13), .val (.int o), .val (.ref sy), .val (.int (0 : Int32)), .val (.int (1 : Int32)), .unset, .unset] [(.ref sy)])) rfl (by rw [hml]; rfl) (Steps.refl _) (argsL := []) (rest := []) (lenOf pd_0_6 rfl) rfl (by show 2 * 0 + _ ≤ _; exact Nat.le_of_eq rfl) (hb hby at_108) (fun _ _ => ⟨rfl, e20, (by decide : 1 + 0 ≤ _), (by decide : 4 + 0 ≤ _)⟩)
  dsimp only [Pt.U, Pt.locs, Pt.cells, Pt.slots] at X21 l21 y21 z21 st21 hQ21
  subst l21 y21 z21
  obtain ⟨rfl, N21q, e21⟩ := hQ21
  have N21 := Fr.app N20 N21q
  obtain ⟨cq22, kq22, q22a, q22b, q22c⟩ := isOf hZ e21 (Es)
  obtain ⟨_, _, ⟨T22, L22, k22, n22⟩, -, X22, ⟨Lc22, hQ22, l22, y22, z22⟩, st22⟩ := X21.virtualBack hx (y := (⟨"java/lang/String", "charAt", "(I)C"⟩ : MethodName)) (z := (⟨"java/lang/String", "charAt", "(I)C"⟩ : MethodName)) hown (mvT hZ (hw _ (List.mem_of_getElem? (i := 27) rfl))) (mvT hZ (hw _ (List.mem_of_getElem? (i := 28) rfl))) (notFace_of_selects (args := #[]) (mvT hZ (hw _ (List.mem_of_getElem? (i := 30) rfl)))) (mvT hZ (hw _ (List.mem_of_getElem? (i := 30) rfl))) (mvT hZ (hw _ (List.mem_of_getElem? (i := 29) rfl))) (by decide) (backOf (W := 0) (rm3 l Z a0 hw [] sy (1 : Int32) va clv (2 : Int32) (61 : Int32) (61 : Int32) fr cw h15 n0 Z15 Es Fv Fc Av Sv Nv hi1 ha1 (by decide) (by decide) Scw15 hcw Sfr15 hfr (by decide) (by decide)) hZ (hw _ (List.mem_of_getElem? (i := 31) rfl)) (hw _ (List.mem_of_getElem? (i := 23) rfl)) (by decide) (by decide)) q22a q22c (g := (mkF m 118 #[.val (.int p1), .val (.int p2), .val (.ref b3), .val (.ref w13), .val (.int o), .val (.ref sy), .val (.int (0 : Int32)), .val (.int (1 : Int32)), .unset, .unset] [(.int (1 : Int32)), (.ref sy)])) rfl (by rw [hml]; rfl) (Steps.refl _) (argsL := [(.int (1 : Int32))]) (rest := []) (lenOf pd_0_2 rfl) rfl (by show 2 * 0 + _ ≤ _; exact Nat.le_of_eq rfl) (hb hby at_118) (fun _ _ => ⟨rfl, e21, (by decide : 1 + 0 ≤ _), (by decide : 4 + 0 ≤ _)⟩)
  dsimp only [Pt.U, Pt.locs, Pt.cells, Pt.slots] at X22 l22 y22 z22 st22 hQ22
  subst l22 y22 z22
  obtain ⟨rfl, N22q, e22⟩ := hQ22
  have N22 := Fr.app N21 N22q
  obtain ⟨cq23, kq23, q23a, q23b, q23c⟩ := isOf hZ e22 (Ew)
  obtain ⟨_, _, ⟨T23, L23, k23, n23⟩, -, X23, ⟨Lc23, hQ23, l23, y23, z23⟩, st23⟩ := X22.virtualBack hx (y := (⟨"com/example/balanza/balanza/logic/Comparison", "holds", "(I)Z"⟩ : MethodName)) (z := (⟨"com/example/balanza/balanza/logic/Comparison", "holds", "(I)Z"⟩ : MethodName)) hown (mvT hZ (hw _ (List.mem_of_getElem? (i := 62) rfl))) (mvT hZ (hw _ (List.mem_of_getElem? (i := 63) rfl))) (notFace_of_selects (args := #[]) (mvT hZ (hw _ (List.mem_of_getElem? (i := 65) rfl)))) (mvT hZ (hw _ (List.mem_of_getElem? (i := 65) rfl))) (mvT hZ (hw _ (List.mem_of_getElem? (i := 64) rfl))) (by decide) (backOf (W := 0) (rm10_3 l Z a0 hw [] w13 o xx h15 n0 Z15 Ew Fo (own_rx3 hxx)) hZ (hw _ (List.mem_of_getElem? (i := 66) rfl)) (hw _ (List.mem_of_getElem? (i := 3) rfl)) (by decide) (by decide)) q23a q23c (g := (mkF m 164 #[.val (.int p1), .val (.int p2), .val (.ref b3), .val (.ref w13), .val (.int o), .val (.ref sy), .val (.int (0 : Int32)), .val (.int (1 : Int32)), .val (.int (1 : Int32)), .val (.int xx)] [(.int o), (.ref w13)])) rfl (by rw [hml]; rfl) (Steps.refl _) (argsL := [(.int o)]) (rest := []) (lenOf pd_0_8 rfl) rfl (by show 2 * 0 + _ ≤ _; exact Nat.le_of_eq rfl) (hb hby at_164) (fun _ _ => ⟨rfl, e22, (by decide : 1 + 0 ≤ _), (by decide : 4 + 0 ≤ _)⟩)
  dsimp only [Pt.U, Pt.locs, Pt.cells, Pt.slots] at X23 l23 y23 z23 st23 hQ23
  subst l23 y23 z23
  obtain ⟨rfl, N23q, e23⟩ := hQ23
  have N23 := Fr.app N22 N23q
  obtain ⟨fs, hr, hrun, hended, hW, hsame⟩ := X23.leave (v := some (.int (1 : Int32))) (fun h => by rw [Bd.returns] at h; cases h)
  refine ⟨_, _, pre0 _ ?_, hrun, hended, _, _, rfl, ?_, ⟨_, rfl⟩, hW, hsame.mono (by decide) (by decide)⟩
  · show Steps p.tables e below (s₁.setTop (mkF m 0 #[.val (.int p1), .val (.int p2), .unset, .unset, .unset, .unset, .unset, .unset, .unset, .unset] [])) _
    refine XS.iconst X0.here hx rfl (hb hby at_0) ?_
    show Steps p.tables e below (s₁.setTop (mkF m 1 #[.val (.int p1), .val (.int p2), .unset, .unset, .unset, .unset, .unset, .unset, .unset, .unset] [(.int (4 : Int32))])) _
    refine st3 _ ?_
    show Steps p.tables e below (T3.setTop (mkF m 4 #[.val (.int p1), .val (.int p2), .unset, .unset, .unset, .unset, .unset, .unset, .unset, .unset] [(.ref b3)])) _
    refine XS.dup X3.here hx rfl (hb hby at_4) rfl rfl ?_
    show Steps p.tables e below (T3.setTop (mkF m 5 #[.val (.int p1), .val (.int p2), .unset, .unset, .unset, .unset, .unset, .unset, .unset, .unset] [(.ref b3), (.ref b3)])) _
    refine XS.iconst X3.here hx rfl (hb hby at_5) ?_
    show Steps p.tables e below (T3.setTop (mkF m 6 #[.val (.int p1), .val (.int p2), .unset, .unset, .unset, .unset, .unset, .unset, .unset, .unset] [(.int (0 : Int32)), (.ref b3), (.ref b3)])) _
    refine st5 _ ?_
    show Steps p.tables e below (T5.setTop (mkF m 9 #[.val (.int p1), .val (.int p2), .unset, .unset, .unset, .unset, .unset, .unset, .unset, .unset] [(.ref w4), (.int (0 : Int32)), (.ref b3), (.ref b3)])) _
    refine st6 _ ?_
    show Steps p.tables e below (T6.setTop (mkF m 10 #[.val (.int p1), .val (.int p2), .unset, .unset, .unset, .unset, .unset, .unset, .unset, .unset] [(.ref b3)])) _
    refine XS.dup X6.here hx rfl (hb hby at_10) rfl rfl ?_
    show Steps p.tables e below (T6.setTop (mkF m 11 #[.val (.int p1), .val (.int p2), .unset, .unset, .unset, .unset, .unset, .unset, .unset, .unset] [(.ref b3), (.ref b3)])) _
    refine XS.iconst X6.here hx rfl (hb hby at_11) ?_
    show Steps p.tables e below (T6.setTop (mkF m 12 #[.val (.int p1), .val (.int p2), .unset, .unset, .unset, .unset, .unset, .unset, .unset, .unset] [(.int (1 : Int32)), (.ref b3), (.ref b3)])) _
    refine st8 _ ?_
    show Steps p.tables e below (T8.setTop (mkF m 15 #[.val (.int p1), .val (.int p2), .unset, .unset, .unset, .unset, .unset, .unset, .unset, .unset] [(.ref w7), (.int (1 : Int32)), (.ref b3), (.ref b3)])) _
    refine st9 _ ?_
    show Steps p.tables e below (T9.setTop (mkF m 16 #[.val (.int p1), .val (.int p2), .unset, .unset, .unset, .unset, .unset, .unset, .unset, .unset] [(.ref b3)])) _
    refine XS.dup X9.here hx rfl (hb hby at_16) rfl rfl ?_
    show Steps p.tables e below (T9.setTop (mkF m 17 #[.val (.int p1), .val (.int p2), .unset, .unset, .unset, .unset, .unset, .unset, .unset, .unset] [(.ref b3), (.ref b3)])) _
    refine XS.iconst X9.here hx rfl (hb hby at_17) ?_
    show Steps p.tables e below (T9.setTop (mkF m 18 #[.val (.int p1), .val (.int p2), .unset, .unset, .unset, .unset, .unset, .unset, .unset, .unset] [(.int (2 : Int32)), (.ref b3), (.ref b3)])) _
    refine st11 _ ?_
    show Steps p.tables e below (T11.setTop (mkF m 21 #[.val (.int p1), .val (.int p2), .unset, .unset, .unset, .unset, .unset, .unset, .unset, .unset] [(.ref w10), (.int (2 : Int32)), (.ref b3), (.ref b3)])) _
    refine st12 _ ?_
    show Steps p.tables e below (T12.setTop (mkF m 22 #[.val (.int p1), .val (.int p2), .unset, .unset, .unset, .unset, .unset, .unset, .unset, .unset] [(.ref b3)])) _
    refine XS.dup X12.here hx rfl (hb hby at_22) rfl rfl ?_
    show Steps p.tables e below (T12.setTop (mkF m 23 #[.val (.int p1), .val (.int p2), .unset, .unset, .unset, .unset, .unset, .unset, .unset, .unset] [(.ref b3), (.ref b3)])) _
    refine XS.iconst X12.here hx rfl (hb hby at_23) ?_
    show Steps p.tables e below (T12.setTop (mkF m 24 #[.val (.int p1), .val (.int p2), .unset, .unset, .unset, .unset, .unset, .unset, .unset, .unset] [(.int (3 : Int32)), (.ref b3), (.ref b3)])) _
    refine st14 _ ?_
    show Steps p.tables e below (T14.setTop (mkF m 27 #[.val (.int p1), .val (.int p2), .unset, .unset, .unset, .unset, .unset, .unset, .unset, .unset] [(.ref w13), (.int (3 : Int32)), (.ref b3), (.ref b3)])) _
    refine st15 _ ?_
    show Steps p.tables e below (T15.setTop (mkF m 28 #[.val (.int p1), .val (.int p2), .unset, .unset, .unset, .unset, .unset, .unset, .unset, .unset] [(.ref b3)])) _
    refine XS.astoreN X15.here hx rfl (hb hby at_28) rfl rfl (l' := #[.val (.int p1), .val (.int p2), .val (.ref b3), .unset, .unset, .unset, .unset, .unset, .unset, .unset]) rfl ?_
    show Steps p.tables e below (T15.setTop (mkF m 29 #[.val (.int p1), .val (.int p2), .val (.ref b3), .unset, .unset, .unset, .unset, .unset, .unset, .unset] [])) _
    refine XS.aloadN X15.here hx rfl (hb hby at_29) rfl rfl ?_
    show Steps p.tables e below (T15.setTop (mkF m 30 #[.val (.int p1), .val (.int p2), .val (.ref b3), .unset, .unset, .unset, .unset, .unset, .unset, .unset] [(.ref b3)])) _
    refine XS.iloadN X15.here hx rfl (hb hby at_30) rfl ?_
    show Steps p.tables e below (T15.setTop (mkF m 31 #[.val (.int p1), .val (.int p2), .val (.ref b3), .unset, .unset, .unset, .unset, .unset, .unset, .unset] [(.int p1), (.ref b3)])) _
    refine XS.iconst X15.here hx rfl (hb hby at_31) ?_
    show Steps p.tables e below (T15.setTop (mkF m 32 #[.val (.int p1), .val (.int p2), .val (.ref b3), .unset, .unset, .unset, .unset, .unset, .unset, .unset] [(.int (3 : Int32)), (.int p1), (.ref b3)])) _
    refine XS.iand X15.here hx rfl (hb hby at_32) rfl ?_
    show Steps p.tables e below (T15.setTop (mkF m 33 #[.val (.int p1), .val (.int p2), .val (.ref b3), .unset, .unset, .unset, .unset, .unset, .unset, .unset] [(.int (p1 &&& (3 : Int32))), (.ref b3)])) _
    rw [hk]
    show Steps p.tables e below (T15.setTop (mkF m 33 #[.val (.int p1), .val (.int p2), .val (.ref b3), .unset, .unset, .unset, .unset, .unset, .unset, .unset] [(.int (3 : Int32)), (.ref b3)])) _
    refine X15.aaload hx (j := (3 : Int32)) (v := (.ref w13)) (by rw [e15]; exact Ar_b3.1) (State.isArrayOf_alike hZ.alike Ar_b3.2.1) rfl Ar_b3.2.2 hin33 hat33 (g := (mkF m 33 #[.val (.int p1), .val (.int p2), .val (.ref b3), .unset, .unset, .unset, .unset, .unset, .unset, .unset] [(.int (3 : Int32)), (.ref b3)])) rfl rfl (hb hby at_33) _ ?_
    show Steps p.tables e below (T15.setTop (mkF m 34 #[.val (.int p1), .val (.int p2), .val (.ref b3), .unset, .unset, .unset, .unset, .unset, .unset, .unset] [(.ref w13)])) _
    refine XS.astoreN X15.here hx rfl (hb hby at_34) rfl rfl (l' := #[.val (.int p1), .val (.int p2), .val (.ref b3), .val (.ref w13), .unset, .unset, .unset, .unset, .unset, .unset]) rfl ?_
    show Steps p.tables e below (T15.setTop (mkF m 35 #[.val (.int p1), .val (.int p2), .val (.ref b3), .val (.ref w13), .unset, .unset, .unset, .unset, .unset, .unset] [])) _
    refine own_pB _ _ _ _ _ _ _ _ _ _ o X15 hx hZ hw hby hml hown e15 One.u ho _ ?_
    show Steps p.tables e below (T15.setTop (mkF m 54 #[.val (.int p1), .val (.int p2), .val (.ref b3), .val (.ref w13), .val (.int o), .unset, .unset, .unset, .unset, .unset] [])) _
    refine XS.aloadN X15.here hx rfl (hb hby at_54) rfl rfl ?_
    show Steps p.tables e below (T15.setTop (mkF m 55 #[.val (.int p1), .val (.int p2), .val (.ref b3), .val (.ref w13), .val (.int o), .unset, .unset, .unset, .unset, .unset] [(.ref w13)])) _
    refine st17.trans ?_
    show Steps p.tables e below (T17.setTop (mkF m 58 #[.val (.int p1), .val (.int p2), .val (.ref b3), .val (.ref w13), .val (.int o), .unset, .unset, .unset, .unset, .unset] [(.ref sy)])) _
    refine XS.astore X17.here hx rfl (hb hby at_58) rfl rfl (l' := #[.val (.int p1), .val (.int p2), .val (.ref b3), .val (.ref w13), .val (.int o), .val (.ref sy), .unset, .unset, .unset, .unset]) rfl ?_
    show Steps p.tables e below (T17.setTop (mkF m 60 #[.val (.int p1), .val (.int p2), .val (.ref b3), .val (.ref w13), .val (.int o), .val (.ref sy), .unset, .unset, .unset, .unset] [])) _
    refine XS.aload X17.here hx rfl (hb hby at_60) rfl rfl ?_
    show Steps p.tables e below (T17.setTop (mkF m 62 #[.val (.int p1), .val (.int p2), .val (.ref b3), .val (.ref w13), .val (.int o), .val (.ref sy), .unset, .unset, .unset, .unset] [(.ref sy)])) _
    refine st18.trans ?_
    show Steps p.tables e below (T18.setTop (mkF m 65 #[.val (.int p1), .val (.int p2), .val (.ref b3), .val (.ref w13), .val (.int o), .val (.ref sy), .unset, .unset, .unset, .unset] [(.int (0 : Int32))])) _
    refine XS.ifYes X18.here hx rfl (pc0 := 65) (pc' := 70) rfl (hb hby at_65) rfl ((if0 _ _).trans (teq (rfl : (0 : Int32) = (0 : Int32))).1) (by decide) (by decide) ?_
    show Steps p.tables e below (T18.setTop (mkF m 70 #[.val (.int p1), .val (.int p2), .val (.ref b3), .val (.ref w13), .val (.int o), .val (.ref sy), .unset, .unset, .unset, .unset] [])) _
    refine XS.aload X18.here hx rfl (hb hby at_70) rfl rfl ?_
    show Steps p.tables e below (T18.setTop (mkF m 72 #[.val (.int p1), .val (.int p2), .val (.ref b3), .val (.ref w13), .val (.int o), .val (.ref sy), .unset, .unset, .unset, .unset] [(.ref sy)])) _
    refine XS.iconst X18.here hx rfl (hb hby at_72) ?_
    show Steps p.tables e below (T18.setTop (mkF m 73 #[.val (.int p1), .val (.int p2), .val (.ref b3), .val (.ref w13), .val (.int o), .val (.ref sy), .unset, .unset, .unset, .unset] [(.int (0 : Int32)), (.ref sy)])) _
    refine st19.trans ?_
    show Steps p.tables e below (T19.setTop (mkF m 76 #[.val (.int p1), .val (.int p2), .val (.ref b3), .val (.ref w13), .val (.int o), .val (.ref sy), .unset, .unset, .unset, .unset] [(.int (62 : Int32))])) _
    refine XS.bipush X19.here hx rfl (hb hby at_76) ?_
    show Steps p.tables e below (T19.setTop (mkF m 78 #[.val (.int p1), .val (.int p2), .val (.ref b3), .val (.ref w13), .val (.int o), .val (.ref sy), .unset, .unset, .unset, .unset] [(.int (60 : Int32)), (.int (62 : Int32))])) _
    refine XS.icmpYes X19.here hx rfl (pc0 := 78) (pc' := 85) rfl (hb hby at_78) rfl (feq (by decide : ¬ ((62 : Int32) = (60 : Int32)))).2 (by decide) (by decide) ?_
    show Steps p.tables e below (T19.setTop (mkF m 85 #[.val (.int p1), .val (.int p2), .val (.ref b3), .val (.ref w13), .val (.int o), .val (.ref sy), .unset, .unset, .unset, .unset] [])) _
    refine XS.iconst X19.here hx rfl (hb hby at_85) ?_
    show Steps p.tables e below (T19.setTop (mkF m 86 #[.val (.int p1), .val (.int p2), .val (.ref b3), .val (.ref w13), .val (.int o), .val (.ref sy), .unset, .unset, .unset, .unset] [(.int (0 : Int32))])) _
    refine XS.istore X19.here hx rfl (hb hby at_86) rfl (l' := #[.val (.int p1), .val (.int p2), .val (.ref b3), .val (.ref w13), .val (.int o), .val (.ref sy), .val (.int (0 : Int32)), .unset, .unset, .unset]) rfl ?_
    show Steps p.tables e below (T19.setTop (mkF m 88 #[.val (.int p1), .val (.int p2), .val (.ref b3), .val (.ref w13), .val (.int o), .val (.ref sy), .val (.int (0 : Int32)), .unset, .unset, .unset] [])) _
    refine XS.aload X19.here hx rfl (hb hby at_88) rfl rfl ?_
    show Steps p.tables e below (T19.setTop (mkF m 90 #[.val (.int p1), .val (.int p2), .val (.ref b3), .val (.ref w13), .val (.int o), .val (.ref sy), .val (.int (0 : Int32)), .unset, .unset, .unset] [(.ref sy)])) _
    refine XS.iconst X19.here hx rfl (hb hby at_90) ?_
    show Steps p.tables e below (T19.setTop (mkF m 91 #[.val (.int p1), .val (.int p2), .val (.ref b3), .val (.ref w13), .val (.int o), .val (.ref sy), .val (.int (0 : Int32)), .unset, .unset, .unset] [(.int (0 : Int32)), (.ref sy)])) _
    refine st20.trans ?_
    show Steps p.tables e below (T20.setTop (mkF m 94 #[.val (.int p1), .val (.int p2), .val (.ref b3), .val (.ref w13), .val (.int o), .val (.ref sy), .val (.int (0 : Int32)), .unset, .unset, .unset] [(.int (62 : Int32))])) _
    refine XS.bipush X20.here hx rfl (hb hby at_94) ?_
    show Steps p.tables e below (T20.setTop (mkF m 96 #[.val (.int p1), .val (.int p2), .val (.ref b3), .val (.ref w13), .val (.int o), .val (.ref sy), .val (.int (0 : Int32)), .unset, .unset, .unset] [(.int (62 : Int32)), (.int (62 : Int32))])) _
    refine XS.icmpNo X20.here hx rfl (hb hby at_96) rfl (teq (rfl : (62 : Int32) = (62 : Int32))).2 ?_
    show Steps p.tables e below (T20.setTop (mkF m 99 #[.val (.int p1), .val (.int p2), .val (.ref b3), .val (.ref w13), .val (.int o), .val (.ref sy), .val (.int (0 : Int32)), .unset, .unset, .unset] [])) _
    refine XS.iconst X20.here hx rfl (hb hby at_99) ?_
    show Steps p.tables e below (T20.setTop (mkF m 100 #[.val (.int p1), .val (.int p2), .val (.ref b3), .val (.ref w13), .val (.int o), .val (.ref sy), .val (.int (0 : Int32)), .unset, .unset, .unset] [(.int (1 : Int32))])) _
    refine XS.goto X20.here hx rfl (pc0 := 100) (pc' := 104) rfl (hb hby at_100) (by decide) (by decide) ?_
    show Steps p.tables e below (T20.setTop (mkF m 104 #[.val (.int p1), .val (.int p2), .val (.ref b3), .val (.ref w13), .val (.int o), .val (.ref sy), .val (.int (0 : Int32)), .unset, .unset, .unset] [(.int (1 : Int32))])) _
    refine XS.istore X20.here hx rfl (hb hby at_104) rfl (l' := #[.val (.int p1), .val (.int p2), .val (.ref b3), .val (.ref w13), .val (.int o), .val (.ref sy), .val (.int (0 : Int32)), .val (.int (1 : Int32)), .unset, .unset]) rfl ?_
    show Steps p.tables e below (T20.setTop (mkF m 106 #[.val (.int p1), .val (.int p2), .val (.ref b3), .val (.ref w13), .val (.int o), .val (.ref sy), .val (.int (0 : Int32)), .val (.int (1 : Int32)), .unset, .unset] [])) _
    refine XS.aload X20.here hx rfl (hb hby at_106) rfl rfl ?_
    show Steps p.tables e below (T20.setTop (mkF m 108 #[.val (.int p1), .val (.int p2), .val (.ref b3), .val (.ref w13), .val (.int o), .val (.ref sy), .val (.int (0 : Int32)), .val (.int (1 : Int32)), .unset, .unset] [(.ref sy)])) _
    refine st21.trans ?_
    show Steps p.tables e below (T21.setTop (mkF m 111 #[.val (.int p1), .val (.int p2), .val (.ref b3), .val (.ref w13), .val (.int o), .val (.ref sy), .val (.int (0 : Int32)), .val (.int (1 : Int32)), .unset, .unset] [(.int (2 : Int32))])) _
    refine XS.iconst X21.here hx rfl (hb hby at_111) ?_
    show Steps p.tables e below (T21.setTop (mkF m 112 #[.val (.int p1), .val (.int p2), .val (.ref b3), .val (.ref w13), .val (.int o), .val (.ref sy), .val (.int (0 : Int32)), .val (.int (1 : Int32)), .unset, .unset] [(.int (2 : Int32)), (.int (2 : Int32))])) _
    refine XS.icmpNo X21.here hx rfl (hb hby at_112) rfl (teq (rfl : (2 : Int32) = (2 : Int32))).2 ?_
    show Steps p.tables e below (T21.setTop (mkF m 115 #[.val (.int p1), .val (.int p2), .val (.ref b3), .val (.ref w13), .val (.int o), .val (.ref sy), .val (.int (0 : Int32)), .val (.int (1 : Int32)), .unset, .unset] [])) _
    refine XS.aload X21.here hx rfl (hb hby at_115) rfl rfl ?_
    show Steps p.tables e below (T21.setTop (mkF m 117 #[.val (.int p1), .val (.int p2), .val (.ref b3), .val (.ref w13), .val (.int o), .val (.ref sy), .val (.int (0 : Int32)), .val (.int (1 : Int32)), .unset, .unset] [(.ref sy)])) _
    refine XS.iconst X21.here hx rfl (hb hby at_117) ?_
    show Steps p.tables e below (T21.setTop (mkF m 118 #[.val (.int p1), .val (.int p2), .val (.ref b3), .val (.ref w13), .val (.int o), .val (.ref sy), .val (.int (0 : Int32)), .val (.int (1 : Int32)), .unset, .unset] [(.int (1 : Int32)), (.ref sy)])) _
    refine st22.trans ?_
    show Steps p.tables e below (T22.setTop (mkF m 121 #[.val (.int p1), .val (.int p2), .val (.ref b3), .val (.ref w13), .val (.int o), .val (.ref sy), .val (.int (0 : Int32)), .val (.int (1 : Int32)), .unset, .unset] [(.int (61 : Int32))])) _
    refine XS.bipush X22.here hx rfl (hb hby at_121) ?_
    show Steps p.tables e below (T22.setTop (mkF m 123 #[.val (.int p1), .val (.int p2), .val (.ref b3), .val (.ref w13), .val (.int o), .val (.ref sy), .val (.int (0 : Int32)), .val (.int (1 : Int32)), .unset, .unset] [(.int (61 : Int32)), (.int (61 : Int32))])) _
    refine XS.icmpNo X22.here hx rfl (hb hby at_123) rfl (teq (rfl : (61 : Int32) = (61 : Int32))).2 ?_
    show Steps p.tables e below (T22.setTop (mkF m 126 #[.val (.int p1), .val (.int p2), .val (.ref b3), .val (.ref w13), .val (.int o), .val (.ref sy), .val (.int (0 : Int32)), .val (.int (1 : Int32)), .unset, .unset] [])) _
    refine XS.iconst X22.here hx rfl (hb hby at_126) ?_
    show Steps p.tables e below (T22.setTop (mkF m 127 #[.val (.int p1), .val (.int p2), .val (.ref b3), .val (.ref w13), .val (.int o), .val (.ref sy), .val (.int (0 : Int32)), .val (.int (1 : Int32)), .unset, .unset] [(.int (1 : Int32))])) _
    refine XS.goto X22.here hx rfl (pc0 := 127) (pc' := 131) rfl (hb hby at_127) (by decide) (by decide) ?_
    show Steps p.tables e below (T22.setTop (mkF m 131 #[.val (.int p1), .val (.int p2), .val (.ref b3), .val (.ref w13), .val (.int o), .val (.ref sy), .val (.int (0 : Int32)), .val (.int (1 : Int32)), .unset, .unset] [(.int (1 : Int32))])) _
    refine XS.istore X22.here hx rfl (hb hby at_131) rfl (l' := #[.val (.int p1), .val (.int p2), .val (.ref b3), .val (.ref w13), .val (.int o), .val (.ref sy), .val (.int (0 : Int32)), .val (.int (1 : Int32)), .val (.int (1 : Int32)), .unset]) rfl ?_
    show Steps p.tables e below (T22.setTop (mkF m 133 #[.val (.int p1), .val (.int p2), .val (.ref b3), .val (.ref w13), .val (.int o), .val (.ref sy), .val (.int (0 : Int32)), .val (.int (1 : Int32)), .val (.int (1 : Int32)), .unset] [])) _
    refine own_pD _ _ _ _ _ _ _ _ _ _ xx X22 hx hZ hw hby hml hown e22 One.u hxx _ ?_
    show Steps p.tables e below (T22.setTop (mkF m 161 #[.val (.int p1), .val (.int p2), .val (.ref b3), .val (.ref w13), .val (.int o), .val (.ref sy), .val (.int (0 : Int32)), .val (.int (1 : Int32)), .val (.int (1 : Int32)), .val (.int xx)] [])) _
    refine XS.aloadN X22.here hx rfl (hb hby at_161) rfl rfl ?_
    show Steps p.tables e below (T22.setTop (mkF m 162 #[.val (.int p1), .val (.int p2), .val (.ref b3), .val (.ref w13), .val (.int o), .val (.ref sy), .val (.int (0 : Int32)), .val (.int (1 : Int32)), .val (.int (1 : Int32)), .val (.int xx)] [(.ref w13)])) _
    refine XS.iload X22.here hx rfl (hb hby at_162) rfl ?_
    show Steps p.tables e below (T22.setTop (mkF m 164 #[.val (.int p1), .val (.int p2), .val (.ref b3), .val (.ref w13), .val (.int o), .val (.ref sy), .val (.int (0 : Int32)), .val (.int (1 : Int32)), .val (.int (1 : Int32)), .val (.int xx)] [(.int o), (.ref w13)])) _
    refine st23.trans ?_
    show Steps p.tables e below (T23.setTop (mkF m 167 #[.val (.int p1), .val (.int p2), .val (.ref b3), .val (.ref w13), .val (.int o), .val (.ref sy), .val (.int (0 : Int32)), .val (.int (1 : Int32)), .val (.int (1 : Int32)), .val (.int xx)] [(.int xx)])) _
    refine XS.iload X23.here hx rfl (hb hby at_167) rfl ?_
    show Steps p.tables e below (T23.setTop (mkF m 169 #[.val (.int p1), .val (.int p2), .val (.ref b3), .val (.ref w13), .val (.int o), .val (.ref sy), .val (.int (0 : Int32)), .val (.int (1 : Int32)), .val (.int (1 : Int32)), .val (.int xx)] [(.int xx), (.int xx)])) _
    refine XS.icmpNo X23.here hx rfl (hb hby at_169) rfl (teq (rfl : xx = xx)).2 ?_
    show Steps p.tables e below (T23.setTop (mkF m 172 #[.val (.int p1), .val (.int p2), .val (.ref b3), .val (.ref w13), .val (.int o), .val (.ref sy), .val (.int (0 : Int32)), .val (.int (1 : Int32)), .val (.int (1 : Int32)), .val (.int xx)] [])) _
    refine XS.iconst X23.here hx rfl (hb hby at_172) ?_
    show Steps p.tables e below (T23.setTop (mkF m 173 #[.val (.int p1), .val (.int p2), .val (.ref b3), .val (.ref w13), .val (.int o), .val (.ref sy), .val (.int (0 : Int32)), .val (.int (1 : Int32)), .val (.int (1 : Int32)), .val (.int xx)] [(.int (1 : Int32))])) _
    refine XS.goto X23.here hx rfl (pc0 := 173) (pc' := 177) rfl (hb hby at_173) (by decide) (by decide) ?_
    show Steps p.tables e below (T23.setTop (mkF m 177 #[.val (.int p1), .val (.int p2), .val (.ref b3), .val (.ref w13), .val (.int o), .val (.ref sy), .val (.int (0 : Int32)), .val (.int (1 : Int32)), .val (.int (1 : Int32)), .val (.int xx)] [(.int (1 : Int32))])) _
    exact retN X23 hx (t := .boolean) Bd.returns (by simp) (hb hby at_177) hr
  · show Q0 Z p1 p2 h0 n0 _ T23.heap _
    exact ⟨rfl, N23⟩

theorem rm0 (l : Launch) (Z : State) (a0 : Array Value) (hw : ∀ d ∈ tables_1, d.before a0 Z = true) (ws : List Jvm.Cond) (p1 : Int32) (p2 : Int32) (w4 w7 w10 w13 : Addr) (h0 : Heap) (n0 : Nat) (Z0 : n0 ≤ h0.size) (S_LESS : Sta Z h0 "com/example/balanza/balanza/logic/Comparison" "LESS" "Lcom/example/balanza/balanza/logic/Comparison;" (.ref w4)) (S_AT_MOST : Sta Z h0 "com/example/balanza/balanza/logic/Comparison" "AT_MOST" "Lcom/example/balanza/balanza/logic/Comparison;" (.ref w7)) (S_GREATER : Sta Z h0 "com/example/balanza/balanza/logic/Comparison" "GREATER" "Lcom/example/balanza/balanza/logic/Comparison;" (.ref w10)) (S_AT_LEAST : Sta Z h0 "com/example/balanza/balanza/logic/Comparison" "AT_LEAST" "Lcom/example/balanza/balanza/logic/Comparison;" (.ref w13)) (E_0 : Exa Z h0 w4 "com/example/balanza/balanza/logic/Comparison") (E_1 : Exa Z h0 w7 "com/example/balanza/balanza/logic/Comparison") (E_2 : Exa Z h0 w10 "com/example/balanza/balanza/logic/Comparison") (E_3 : Exa Z h0 w13 "com/example/balanza/balanza/logic/Comparison") (cw : Int32) (Scw : Sta Z h0 "java/lang/String" "COMPACT_STRINGS" "Z" (.int cw)) (hcw : ¬ (cw = (0 : Int32))) (fr : Value) (Sfr : Sta Z h0 "jdk/internal/util/Preconditions" "SIOOBE_FORMATTER" "Ljava/util/function/BiFunction;" fr) (hfr : fr.isRef = true) (C_0 : own_C Z h0 w4 (0 : Int32) (1 : Int32) [(.int (60 : Int32))]) (C_1 : own_C Z h0 w7 (1 : Int32) (2 : Int32) [(.int (60 : Int32)), (.int (61 : Int32))]) (C_2 : own_C Z h0 w10 (2 : Int32) (1 : Int32) [(.int (62 : Int32))]) (C_3 : own_C Z h0 w13 (3 : Int32) (2 : Int32) [(.int (62 : Int32)), (.int (61 : Int32))]) :
    MetFree l x (head1 (Jvm.Cond.code x code maxLocals ret :: ws) room_1) (fun a U => a = #[(.int p1), (.int p2)] ∧ Z.Warmed39 U.vm ∧ U.heap = h0) (fun _ _ _ _ _ => True) (fun _ U o U' => ∃ v L, o = .returned v ∧ Q0 Z p1 p2 h0 n0 v U'.heap L ∧ FrameEnd U o U' L room_1.cells room_1.slots) := by
  rcases own_and3 p1 with h | h | h | h
  · exact rm0_0 l Z a0 hw ws p1 p2 w4 w7 w10 w13 h0 n0 Z0 S_LESS S_AT_MOST S_GREATER S_AT_LEAST E_0 E_1 E_2 E_3 cw Scw hcw fr Sfr hfr C_0 h
  · exact rm0_1 l Z a0 hw ws p1 p2 w4 w7 w10 w13 h0 n0 Z0 S_LESS S_AT_MOST S_GREATER S_AT_LEAST E_0 E_1 E_2 E_3 cw Scw hcw fr Sfr hfr C_1 h
  · exact rm0_2 l Z a0 hw ws p1 p2 w4 w7 w10 w13 h0 n0 Z0 S_LESS S_AT_MOST S_GREATER S_AT_LEAST E_0 E_1 E_2 E_3 cw Scw hcw fr Sfr hfr C_2 h
  · exact rm0_3 l Z a0 hw ws p1 p2 w4 w7 w10 w13 h0 n0 Z0 S_LESS S_AT_MOST S_GREATER S_AT_LEAST E_0 E_1 E_2 E_3 cw Scw hcw fr Sfr hfr C_3 h

set_option maxRecDepth 65536 in
set_option maxHeartbeats 40000000 in
theorem comes_1 {Post : Tables → Env → Array Value → State → Outcome → State → Prop} (hpost : ∀ tb e args s v u, (limb_1_1.after args s (.returned v) u = true ∧ limb_1_2.after args s (.returned v) u = true ∧ True) → FrameEnd s (.returned v) u (Jvm.fieldLocs frame_1_writes args s ++ Jvm.arrayLocs frame_1_arrays args s ++ Jvm.staticLocs frame_1_statics s) 16 128 → Post tb e args s (.returned v) u) :
    ArmFor flags0 classFile x code maxLocals ret World_1 tables_1 room_1 Calls_1 rest_1 Pre_1 Post := by
  intro l hfl _ _ p e ha hc hk s m args below hf hA hF happ hP
  obtain ⟨hcalls, hrest, hpre⟩ := hP
  obtain ⟨-, -, -, hnamed, -, -, -, hat⟩ := (Spec.applies_iff hf).mp happ
  obtain ⟨hg, hn⟩ := and_e (Cond.before_iff.mp (show (Jvm.Cond.and given_1 narrow_1).before args s = true from hpre))
  obtain ⟨g24, g25⟩ := and_e hg
  obtain ⟨g26, g27⟩ := and_e g25
  obtain ⟨w0, w1, rfl⟩ : ∃ w0 w1 : Value, args = #[w0, w1] := by
    have hs : args.size = 2 := by simpa [Cond.value, given_1] using g24
    obtain ⟨L⟩ := args
    match L, hs with
    | [w0, w1], _ => exact ⟨w0, w1, rfl⟩
  have hw := fun d (hd : d ∈ tables_1) => atoms_spec (ws := Jvm.Cond.code x code maxLocals ret :: tables_1) hat d (List.mem_cons_of_mem _ hd)
  have hfit : Fit s := fun {y c} hc i hi => by
    obtain ⟨ha, rfl⟩ := Array.getElem?_eq_some_iff.mp hc
    have q := List.all_eq_true.mp ((Array.all_eq_true_iff_forall_mem.mp hF) _ (Array.getElem_mem ha)) i (List.mem_range.mpr hi)
    simpa [Array.getElem?_eq_getElem hi] using q
  obtain ⟨hsets, hown0⟩ := atoms_of _ (rest_1_c_eq ▸ (show rest_1_c.before _ s = true from hrest))
  have hr0 := Cond.before_iff.mp hown0
  obtain ⟨i0, ei0⟩ := is_v g26
  obtain rfl : w0 = (.int i0) := Option.some.inj ei0
  obtain ⟨i1, ei1⟩ := is_v g27
  obtain rfl : w1 = (.int i1) := Option.some.inj ei1
  obtain ⟨x0, t0⟩ := and_e hn
  obtain ⟨x1, t1⟩ := and_e t0
  obtain ⟨x2, t2⟩ := and_e t1
  obtain ⟨x3, t3⟩ := and_e t2
  obtain ⟨a0, t4⟩ := and_e t3
  obtain ⟨a1, t5⟩ := and_e t4
  obtain ⟨a2, t6⟩ := and_e t5
  obtain ⟨a3, t7⟩ := and_e t6
  obtain ⟨a4, t8⟩ := and_e t7
  obtain ⟨a5, t9⟩ := and_e t8
  obtain ⟨c0, t10⟩ := and_e t9
  obtain ⟨c1, t11⟩ := and_e t10
  obtain ⟨c2, t12⟩ := and_e t11
  obtain ⟨c3, t13⟩ := and_e t12
  obtain ⟨c4, t14⟩ := and_e t13
  obtain ⟨c5, t15⟩ := and_e t14
  obtain ⟨b0, t16⟩ := and_e t15
  obtain ⟨b1, t17⟩ := and_e t16
  obtain ⟨b2, t18⟩ := and_e t17
  obtain ⟨b3, t19⟩ := and_e t18
  obtain ⟨b4, t20⟩ := and_e t19
  obtain ⟨b5, t21⟩ := and_e t20
  obtain ⟨b6, t22⟩ := and_e t21
  obtain ⟨d0, t23⟩ := and_e t22
  obtain ⟨d1, t24⟩ := and_e t23
  obtain ⟨d2, t25⟩ := and_e t24
  obtain ⟨d3, t26⟩ := and_e t25
  obtain ⟨d4, t27⟩ := and_e t26
  obtain ⟨d5, d6⟩ := and_e t27
  obtain ⟨w4, sya, vaa, cla, eva, Ea, Foa, Fsa, Esa, Fva, Fca, ela, Ara, qa, qa'⟩ := own_startA x0 a0 a1 a2 a3 a5
  have Va := Arv.start (dv := .int (0 : Int32)) (vs := [(.int (60 : Int32))]) hfit Ara qa qa' (by decide) rfl ⟨own_el ela Ara.1 a4, trivial⟩
  have Ca : own_C s s.heap w4 _ _ [(.int (60 : Int32))] := ⟨Ea, Foa, _, _, _, Fsa, Esa, Fva, Fca, Va⟩
  obtain ⟨w7, syb, vab, clb, evb, Eb, Fob, Fsb, Esb, Fvb, Fcb, elb, Arb, qb, qb'⟩ := own_startA x1 b0 b1 b2 b3 b6
  have Vb := Arv.start (dv := .int (0 : Int32)) (vs := [(.int (60 : Int32)), (.int (61 : Int32))]) hfit Arb qb qb' (by decide) rfl ⟨own_el elb Arb.1 b4, own_el elb Arb.1 b5, trivial⟩
  have Cb : own_C s s.heap w7 _ _ [(.int (60 : Int32)), (.int (61 : Int32))] := ⟨Eb, Fob, _, _, _, Fsb, Esb, Fvb, Fcb, Vb⟩
  obtain ⟨w10, syc, vac, clc, evc, Ec, Foc, Fsc, Esc, Fvc, Fcc, elc, Arc, qc, qc'⟩ := own_startA x2 c0 c1 c2 c3 c5
  have Vc := Arv.start (dv := .int (0 : Int32)) (vs := [(.int (62 : Int32))]) hfit Arc qc qc' (by decide) rfl ⟨own_el elc Arc.1 c4, trivial⟩
  have Cc : own_C s s.heap w10 _ _ [(.int (62 : Int32))] := ⟨Ec, Foc, _, _, _, Fsc, Esc, Fvc, Fcc, Vc⟩
  obtain ⟨w13, syd, vad, cld, evd, Ed, Fod, Fsd, Esd, Fvd, Fcd, eld, Ard, qd, qd'⟩ := own_startA x3 d0 d1 d2 d3 d6
  have Vd := Arv.start (dv := .int (0 : Int32)) (vs := [(.int (62 : Int32)), (.int (61 : Int32))]) hfit Ard qd qd' (by decide) rfl ⟨own_el eld Ard.1 d4, own_el eld Ard.1 d5, trivial⟩
  have Cd : own_C s s.heap w13 _ _ [(.int (62 : Int32)), (.int (61 : Int32))] := ⟨Ed, Fod, _, _, _, Fsd, Esd, Fvd, Fcd, Vd⟩
  have Sa := Sta.start eva (Or.inr ⟨(hw _ (List.mem_of_getElem? (i := 3) rfl)), (hw _ (List.mem_of_getElem? (i := 4) rfl))⟩)
  have Sb := Sta.start evb (Or.inr ⟨(hw _ (List.mem_of_getElem? (i := 3) rfl)), (hw _ (List.mem_of_getElem? (i := 7) rfl))⟩)
  have Sc := Sta.start evc (Or.inr ⟨(hw _ (List.mem_of_getElem? (i := 3) rfl)), (hw _ (List.mem_of_getElem? (i := 9) rfl))⟩)
  have Sd := Sta.start evd (Or.inr ⟨(hw _ (List.mem_of_getElem? (i := 3) rfl)), (hw _ (List.mem_of_getElem? (i := 11) rfl))⟩)
  obtain ⟨cw, ecw⟩ := is_v (Cond.before_iff.mp (hsets _ (List.mem_of_getElem? (i := 1) rfl)))
  have Scw := Sta.start ecw (Or.inl (hsets _ (List.mem_of_getElem? (i := 0) rfl)))
  have hcw : ¬ (cw = (0 : Int32)) := fun q => by
    have z := not_v (Cond.before_iff.mp (hsets _ (List.mem_of_getElem? (i := 2) rfl)))
    rw [eq_i ecw rfl (by rw [q])] at z
    cases z
  obtain ⟨fr, efr, hfr⟩ := isR_v (Cond.before_iff.mp (hsets _ (List.mem_of_getElem? (i := 8) rfl)))
  have Sfr := Sta.start efr (Or.inl (hsets _ (List.mem_of_getElem? (i := 7) rfl)))
  obtain ⟨n, o, h1, h2, h3, _, L, rfl, ⟨rfl, N⟩, hq⟩ := rm0 l s _ hw tables_1 i0 i1 w4 w7 w10 w13 s.heap s.heap.size (Nat.le_refl _) Sa Sb Sc Sd Ea Eb Ec Ed cw Scw hcw fr Sfr hfr Ca Cb Cc Cd p e ha hc hk s m _ below hf ((Spec.applies_iff_loose hf).mp happ).1 ⟨rfl, State.Warmed39.refl s, rfl⟩ trivial
  refine ⟨n, _, h1, h2, h3, hpost _ _ _ _ _ _ ⟨Cond.after_iff.mpr rfl, Cond.after_iff.mpr (eq_i res_at (Term.int_eval (1)) rfl), trivial⟩ ⟨hq.1, hq.2.1, (hq.2.2.sift fun y hy => Or.inr (N y hy)).mono (by decide) (by decide)⟩⟩
theorem main_1_1 : Claimed_1_1 := comes_1 fun _ _ _ _ _ _ h hF => ⟨h.1, hF⟩
theorem main_1_2 : Claimed_1_2 := comes_1 fun _ _ _ _ _ _ h hF => ⟨h.2.1, hF⟩

end Jvm.Pilot.@@N@@
namespace Jvm.Pilot.@@N@@
open Jvm Jvm.ClassFile Sem Op Lib Jvm.Free Jvm.Stand Jvm.Pilot.@@N@@.Jvm.D
/-! MADE BY PROGRAM (witnessworld.py) out of the Statement's table words and the real class files: 19 classes; the members and pool entries that the words name. The judged class is class 1, her method 1. -/
namespace start1
open Jvm.ClassFile
def u (s : String) : CpInfo := .utf8 (stringToUtf16 s)
/-- a pool by its gaps: so many unusable entries, then the entry; so many at the end -/
def gap : Nat → List CpInfo → List CpInfo
  | 0, r => r
  | n + 1, r => .unusable :: gap n r
def poolList (es : List (Nat × CpInfo)) (last : Nat) : List CpInfo := es.foldr (fun e r => gap e.1 (e.2 :: r)) (gap last [])
def pool (es : List (Nat × CpInfo)) (last : Nat) : Array CpInfo := ⟨poolList es last⟩
def fileOf (pool : Array CpInfo) (this : Nat) (attrs : Array Attribute := #[]) (ms : Array MethodInfo := #[]) (fl : Nat := 33) (sup : Nat := 0) (ifs : Array Nat := #[]) (fds : Array FieldInfo := #[]) : ClassFile where
  minorVersion := 0
  majorVersion := 65
  constantPool := pool
  accessFlags := fl
  thisClass := this
  superClass := sup
  interfaces := ifs
  fields := fds
  methods := ms
  attributes := attrs
def plain (name : String) (sup : Option ClassId) : Class where
  name := name
  kind := .ordinary
  loader := none
  accessFlags := 33
  super := sup
  interfaces := #[]
  cf := none
  fields := #[]
  methods := #[]
  instanceTypes := #[]
  staticTypes := #[]
  resolved := #[]
  callSites := []
  init := .initialized
  statics := none
  mirror := none

def pool0 : Array CpInfo := pool [(5, u "<init>"), (0, u "()V"), (1, .class_ 10), (1, u "java/lang/Object")] 113

def k0m0 : Method := { name := "<init>", desc := "()V", sig := { parameters := [], returnType := none }, accessFlags := 1, code := none }
/-- java/lang/Object -/
def k0 : Class := { plain "java/lang/Object" none with
  accessFlags := 33
  interfaces := #[]
  cf := some (fileOf pool0 8 #[] #[{ accessFlags := 1, nameIndex := 5, descriptorIndex := 6, attributes := #[] }] 33 0 #[] #[])
  fields := #[]
  methods := #[k0m0]
  instanceTypes := #[]
  staticTypes := #[]
  resolved := Array.replicate 124 none
  statics := none }

def pool1 : Array CpInfo := pool [(2, .class_ 4), (1, u "java/lang/Object"), (0, u "<init>"), (0, u "()V"), (0, .class_ 8), (0, u "com/example/balanza/balanza/logic/Comparison"), (0, .fieldref 7 10), (0, .nameAndType 11 12), (0, u "LESS"), (0, u "Lcom/example/balanza/balanza/logic/Comparison;"), (0, .fieldref 7 14), (0, .nameAndType 15 12), (0, u "AT_MOST"), (0, .fieldref 7 17), (0, .nameAndType 18 12), (0, u "GREATER"), (0, .fieldref 7 20), (0, .nameAndType 21 12), (0, u "AT_LEAST"), (0, .methodref 7 23), (0, .nameAndType 24 25), (0, u "symbol"), (0, u "()Ljava/lang/String;"), (0, .methodref 27 28), (0, .class_ 29), (0, .nameAndType 30 31), (0, u "java/lang/String"), (0, u "isEmpty"), (0, u "()Z"), (0, .methodref 27 33), (0, .nameAndType 34 35), (0, u "charAt"), (0, u "(I)C"), (0, .methodref 27 37), (0, .nameAndType 38 39), (0, u "length"), (0, u "()I"), (0, .methodref 7 41), (0, .nameAndType 42 43), (0, u "holds"), (0, u "(I)Z"), (0, .class_ 45), (0, u "com/example/balanza/balanza/logic/ComparisonHoldsPinLaw"), (2, u "law"), (0, u "(II)Z")] 5

def k1m0 : Method := { name := "<init>", desc := "()V", sig := { parameters := [], returnType := none }, accessFlags := 2, code := none }
def k1c1 : Code := { maxStack := 4, maxLocals := 10, code := code, exceptionTable := #[], attributes := #[] }
def k1m1 : Method := { name := "law", desc := "(II)Z", sig := { parameters := [.int, .int], returnType := some .boolean }, accessFlags := 9, code := some k1c1 }
/-- com/example/balanza/balanza/logic/ComparisonHoldsPinLaw -/
def k1 : Class := { plain "com/example/balanza/balanza/logic/ComparisonHoldsPinLaw" (some 0) with
  accessFlags := 49
  interfaces := #[]
  cf := some (fileOf pool1 44 #[] #[{ accessFlags := 2, nameIndex := 5, descriptorIndex := 6, attributes := #[] }, { accessFlags := 9, nameIndex := 48, descriptorIndex := 49, attributes := #[] }] 49 2 #[] #[])
  fields := #[]
  methods := #[k1m0, k1m1]
  instanceTypes := #[]
  staticTypes := #[]
  resolved := Array.replicate 55 none
  statics := none }

def pool2 : Array CpInfo := pool [(1, .class_ 2), (0, u "java/lang/constant/Constable"), (0, .class_ 4), (0, u "java/lang/Object")] 6

/-- java/lang/constant/Constable -/
def k2 : Class := { plain "java/lang/constant/Constable" (some 0) with
  accessFlags := 1537
  interfaces := #[]
  cf := some (fileOf pool2 1 #[] #[] 1537 3 #[] #[])
  fields := #[]
  methods := #[]
  instanceTypes := #[]
  staticTypes := #[]
  resolved := Array.replicate 11 none
  statics := none }

def pool3 : Array CpInfo := pool [(1, .class_ 2), (0, u "java/lang/Comparable"), (0, .class_ 4), (0, u "java/lang/Object")] 7

/-- java/lang/Comparable -/
def k3 : Class := { plain "java/lang/Comparable" (some 0) with
  accessFlags := 1537
  interfaces := #[]
  cf := some (fileOf pool3 1 #[] #[] 1537 3 #[] #[])
  fields := #[]
  methods := #[]
  instanceTypes := #[]
  staticTypes := #[]
  resolved := Array.replicate 12 none
  statics := none }

def pool4 : Array CpInfo := pool [(1, .class_ 2), (0, u "java/io/Serializable"), (0, .class_ 4), (0, u "java/lang/Object")] 2

/-- java/io/Serializable -/
def k4 : Class := { plain "java/io/Serializable" (some 0) with
  accessFlags := 1537
  interfaces := #[]
  cf := some (fileOf pool4 1 #[] #[] 1537 3 #[] #[])
  fields := #[]
  methods := #[]
  instanceTypes := #[]
  staticTypes := #[]
  resolved := Array.replicate 7 none
  statics := none }

def pool5 : Array CpInfo := pool [(2, .class_ 4), (1, u "java/lang/Enum"), (0, u "name"), (0, u "Ljava/lang/String;"), (0, .fieldref 2 8), (0, .nameAndType 9 10), (0, u "ordinal"), (0, u "I"), (1, .class_ 14), (1, u "java/lang/Object"), (4, u "hash"), (86, .class_ 108), (1, u "java/lang/Enum$EnumDesc"), (2, .class_ 112), (0, u "java/lang/constant/Constable"), (0, .class_ 114), (0, u "java/lang/Comparable"), (0, .class_ 116), (0, u "java/io/Serializable"), (9, u "()I")] 77

def k5c0 : Code := { maxStack := 1, maxLocals := 1, code := jdk_37_method_2_code, exceptionTable := #[], attributes := #[] }
def k5m0 : Method := { name := "ordinal", desc := "()I", sig := { parameters := [], returnType := some .int }, accessFlags := 17, code := some k5c0 }
/-- java/lang/Enum -/
def k5 : Class := { plain "java/lang/Enum" (some 0) with
  accessFlags := 1057
  interfaces := #[2, 3, 4]
  cf := some (fileOf pool5 2 #[.nestMembers #[106]] #[{ accessFlags := 17, nameIndex := 9, descriptorIndex := 126, attributes := #[] }] 1057 12 #[111, 113, 115] #[{ accessFlags := 18, nameIndex := 5, descriptorIndex := 6, attributes := #[] }, { accessFlags := 18, nameIndex := 9, descriptorIndex := 10, attributes := #[] }, { accessFlags := 2, nameIndex := 19, descriptorIndex := 10, attributes := #[] }])
  fields := #[{ name := "name", type := (.object "java/lang/String"), accessFlags := 18, slot := 0, constantValue := 0 }, { name := "ordinal", type := .int, accessFlags := 18, slot := 1, constantValue := 0 }, { name := "hash", type := .int, accessFlags := 2, slot := 2, constantValue := 0 }]
  methods := #[k5m0]
  instanceTypes := #[(.object "java/lang/String"), .int, .int]
  staticTypes := #[]
  resolved := Array.replicate 204 none
  statics := none }

def pool6 : Array CpInfo := pool [(1, .class_ 2), (0, u "com/example/balanza/balanza/logic/Comparison"), (2, u "LESS"), (0, u "Lcom/example/balanza/balanza/logic/Comparison;"), (2, u "AT_MOST"), (2, u "GREATER"), (2, u "AT_LEAST"), (2, u "$VALUES"), (0, u "[Lcom/example/balanza/balanza/logic/Comparison;"), (6, .class_ 28), (1, u "java/lang/Enum"), (6, .fieldref 1 36), (0, .nameAndType 37 38), (0, u "symbol"), (0, u "Ljava/lang/String;"), (0, .methodref 1 40), (0, .nameAndType 41 42), (0, u "ordinal"), (0, u "()I"), (31, u "()Ljava/lang/String;"), (0, u "holds"), (0, u "(I)Z")] 6

def k6c0 : Code := { maxStack := 1, maxLocals := 1, code := prog_49_method_4_code, exceptionTable := #[], attributes := #[] }
def k6m0 : Method := { name := "symbol", desc := "()Ljava/lang/String;", sig := { parameters := [], returnType := some (.object "java/lang/String") }, accessFlags := 1, code := some k6c0 }
def k6c1 : Code := { maxStack := 4, maxLocals := 3, code := prog_49_method_5_code, exceptionTable := #[], attributes := #[] }
def k6m1 : Method := { name := "holds", desc := "(I)Z", sig := { parameters := [.int], returnType := some .boolean }, accessFlags := 1, code := some k6c1 }
/-- com/example/balanza/balanza/logic/Comparison -/
def k6 : Class := { plain "com/example/balanza/balanza/logic/Comparison" (some 5) with
  accessFlags := 16433
  interfaces := #[]
  cf := some (fileOf pool6 1 #[] #[{ accessFlags := 1, nameIndex := 37, descriptorIndex := 74, attributes := #[] }, { accessFlags := 1, nameIndex := 75, descriptorIndex := 76, attributes := #[] }] 16433 26 #[] #[{ accessFlags := 16409, nameIndex := 5, descriptorIndex := 6, attributes := #[] }, { accessFlags := 16409, nameIndex := 9, descriptorIndex := 6, attributes := #[] }, { accessFlags := 16409, nameIndex := 12, descriptorIndex := 6, attributes := #[] }, { accessFlags := 16409, nameIndex := 15, descriptorIndex := 6, attributes := #[] }, { accessFlags := 18, nameIndex := 37, descriptorIndex := 38, attributes := #[] }, { accessFlags := 4122, nameIndex := 18, descriptorIndex := 19, attributes := #[] }])
  fields := #[{ name := "LESS", type := (.object "com/example/balanza/balanza/logic/Comparison"), accessFlags := 16409, slot := 0, constantValue := 0 }, { name := "AT_MOST", type := (.object "com/example/balanza/balanza/logic/Comparison"), accessFlags := 16409, slot := 1, constantValue := 0 }, { name := "GREATER", type := (.object "com/example/balanza/balanza/logic/Comparison"), accessFlags := 16409, slot := 2, constantValue := 0 }, { name := "AT_LEAST", type := (.object "com/example/balanza/balanza/logic/Comparison"), accessFlags := 16409, slot := 3, constantValue := 0 }, { name := "symbol", type := (.object "java/lang/String"), accessFlags := 18, slot := 3, constantValue := 0 }, { name := "$VALUES", type := (.array (.object "com/example/balanza/balanza/logic/Comparison")), accessFlags := 4122, slot := 4, constantValue := 0 }]
  methods := #[k6m0, k6m1]
  instanceTypes := #[(.object "java/lang/String"), .int, .int, (.object "java/lang/String")]
  staticTypes := #[(.object "com/example/balanza/balanza/logic/Comparison"), (.object "com/example/balanza/balanza/logic/Comparison"), (.object "com/example/balanza/balanza/logic/Comparison"), (.object "com/example/balanza/balanza/logic/Comparison"), (.array (.object "com/example/balanza/balanza/logic/Comparison"))]
  resolved := Array.replicate 83 none
  statics := some 0 }

def pool7 : Array CpInfo := pool [(2, .class_ 4), (1, u "java/lang/CharSequence"), (42, .class_ 48), (0, u "java/lang/CharSequence$1CodePointIterator"), (10, .class_ 60), (0, u "java/lang/CharSequence$1CharIterator"), (5, .class_ 67), (0, u "java/lang/Object")] 63

/-- java/lang/CharSequence -/
def k7 : Class := { plain "java/lang/CharSequence" (some 0) with
  accessFlags := 1537
  interfaces := #[]
  cf := some (fileOf pool7 2 #[.nestMembers #[47, 59]] #[] 1537 66 #[] #[])
  fields := #[]
  methods := #[]
  instanceTypes := #[]
  staticTypes := #[]
  resolved := Array.replicate 131 none
  statics := none }

def pool8 : Array CpInfo := pool [(1, .class_ 2), (0, u "java/lang/constant/ConstantDesc"), (0, .class_ 4), (0, u "java/lang/Object")] 32

/-- java/lang/constant/ConstantDesc -/
def k8 : Class := { plain "java/lang/constant/ConstantDesc" (some 0) with
  accessFlags := 1537
  interfaces := #[]
  cf := some (fileOf pool8 1 #[] #[] 1537 3 #[] #[])
  fields := #[]
  methods := #[]
  instanceTypes := #[]
  staticTypes := #[]
  resolved := Array.replicate 37 none
  statics := none }

def pool9 : Array CpInfo := pool [(2, .class_ 4), (1, u "java/lang/Object"), (0, u "<init>"), (0, u "()V"), (2, .fieldref 10 11), (0, .class_ 12), (0, .nameAndType 13 14), (0, u "java/lang/String"), (0, u "value"), (0, u "[B"), (0, .fieldref 10 16), (0, .nameAndType 17 18), (0, u "coder"), (0, u "B"), (2, u "hash"), (0, u "I"), (2, u "hashIsZero"), (0, u "Z"), (11, .fieldref 10 39), (0, .nameAndType 40 26), (0, u "COMPACT_STRINGS"), (66, .class_ 109), (1, u "java/lang/StringLatin1"), (32, u "()Z"), (191, u "()I"), (0, .methodref 10 336), (0, .nameAndType 17 337), (0, u "()B"), (25, u "([BI)C"), (27, u "(II)V"), (35, u "(I)C"), (64, .methodref 10 493), (0, .nameAndType 494 142), (0, u "isLatin1"), (0, .methodref 107 496), (0, .nameAndType 497 363), (0, u "charAt"), (3, u "checkIndex"), (5, u "length"), (67, .class_ 576), (0, u "java/lang/CharSequence"), (22, u "CASE_INSENSITIVE_ORDER"), (0, u "Ljava/util/Comparator;"), (91, u "isEmpty"), (360, .fieldref 1054 1055), (0, .class_ 1056), (0, .nameAndType 1057 1058), (0, u "jdk/internal/util/Preconditions"), (0, u "SIOOBE_FORMATTER"), (0, u "Ljava/util/function/BiFunction;"), (0, .methodref 1054 1060), (0, .nameAndType 501 1061), (0, u "(IILjava/util/function/BiFunction;)I"), (39, u "serialPersistentFields"), (0, u "[Ljava/io/ObjectStreamField;"), (0, .class_ 1104), (0, u "java/lang/String$CaseInsensitiveComparator"), (1, .class_ 1107), (0, u "java/io/Serializable"), (0, .class_ 1109), (0, u "java/lang/Comparable"), (0, .class_ 1111), (0, u "java/lang/constant/Constable"), (0, .class_ 1113), (0, u "java/lang/constant/ConstantDesc"), (2, u "serialVersionUID"), (0, u "J"), (3, u "REPL"), (0, u "C"), (2, u "LATIN1"), (1, u "UTF16")] 323

def k9m0 : Method := { name := "<init>", desc := "()V", sig := { parameters := [], returnType := none }, accessFlags := 1, code := none }
def k9c1 : Code := { maxStack := 2, maxLocals := 1, code := jdk_42_method_54_code, exceptionTable := #[], attributes := #[] }
def k9m1 : Method := { name := "length", desc := "()I", sig := { parameters := [], returnType := some .int }, accessFlags := 1, code := some k9c1 }
def k9c2 : Code := { maxStack := 1, maxLocals := 1, code := jdk_42_method_55_code, exceptionTable := #[], attributes := #[] }
def k9m2 : Method := { name := "isEmpty", desc := "()Z", sig := { parameters := [], returnType := some .boolean }, accessFlags := 1, code := some k9c2 }
def k9c3 : Code := { maxStack := 2, maxLocals := 2, code := jdk_42_method_56_code, exceptionTable := #[], attributes := #[] }
def k9m3 : Method := { name := "charAt", desc := "(I)C", sig := { parameters := [.int], returnType := some .char }, accessFlags := 1, code := some k9c3 }
def k9c4 : Code := { maxStack := 1, maxLocals := 1, code := jdk_42_method_152_code, exceptionTable := #[], attributes := #[] }
def k9m4 : Method := { name := "coder", desc := "()B", sig := { parameters := [], returnType := some .byte }, accessFlags := 0, code := some k9c4 }
def k9c5 : Code := { maxStack := 1, maxLocals := 1, code := jdk_42_method_154_code, exceptionTable := #[], attributes := #[] }
def k9m5 : Method := { name := "isLatin1", desc := "()Z", sig := { parameters := [], returnType := some .boolean }, accessFlags := 0, code := some k9c5 }
def k9c6 : Code := { maxStack := 3, maxLocals := 2, code := jdk_42_method_155_code, exceptionTable := #[], attributes := #[] }
def k9m6 : Method := { name := "checkIndex", desc := "(II)V", sig := { parameters := [.int, .int], returnType := none }, accessFlags := 8, code := some k9c6 }
/-- java/lang/String -/
def k9 : Class := { plain "java/lang/String" (some 0) with
  accessFlags := 49
  interfaces := #[4, 3, 7, 2, 8]
  cf := some (fileOf pool9 10 #[.nestMembers #[1103]] #[{ accessFlags := 1, nameIndex := 5, descriptorIndex := 6, attributes := #[] }, { accessFlags := 1, nameIndex := 507, descriptorIndex := 334, attributes := #[] }, { accessFlags := 1, nameIndex := 692, descriptorIndex := 142, attributes := #[] }, { accessFlags := 1, nameIndex := 497, descriptorIndex := 427, attributes := #[] }, { accessFlags := 0, nameIndex := 17, descriptorIndex := 337, attributes := #[] }, { accessFlags := 0, nameIndex := 494, descriptorIndex := 142, attributes := #[] }, { accessFlags := 8, nameIndex := 501, descriptorIndex := 391, attributes := #[] }] 49 2 #[1106, 1108, 575, 1110, 1112] #[{ accessFlags := 18, nameIndex := 13, descriptorIndex := 14, attributes := #[] }, { accessFlags := 18, nameIndex := 17, descriptorIndex := 18, attributes := #[] }, { accessFlags := 2, nameIndex := 21, descriptorIndex := 22, attributes := #[] }, { accessFlags := 2, nameIndex := 25, descriptorIndex := 26, attributes := #[] }, { accessFlags := 26, nameIndex := 1116, descriptorIndex := 1117, attributes := #[] }, { accessFlags := 24, nameIndex := 40, descriptorIndex := 26, attributes := #[] }, { accessFlags := 26, nameIndex := 1101, descriptorIndex := 1102, attributes := #[] }, { accessFlags := 26, nameIndex := 1121, descriptorIndex := 1122, attributes := #[] }, { accessFlags := 25, nameIndex := 599, descriptorIndex := 600, attributes := #[] }, { accessFlags := 24, nameIndex := 1125, descriptorIndex := 18, attributes := #[] }, { accessFlags := 24, nameIndex := 1127, descriptorIndex := 18, attributes := #[] }])
  fields := #[{ name := "value", type := (.array .byte), accessFlags := 18, slot := 0, constantValue := 0 }, { name := "coder", type := .byte, accessFlags := 18, slot := 1, constantValue := 0 }, { name := "hash", type := .int, accessFlags := 2, slot := 2, constantValue := 0 }, { name := "hashIsZero", type := .boolean, accessFlags := 2, slot := 3, constantValue := 0 }, { name := "serialVersionUID", type := .long, accessFlags := 26, slot := 0, constantValue := 0 }, { name := "COMPACT_STRINGS", type := .boolean, accessFlags := 24, slot := 1, constantValue := 0 }, { name := "serialPersistentFields", type := (.array (.object "java/io/ObjectStreamField")), accessFlags := 26, slot := 2, constantValue := 0 }, { name := "REPL", type := .char, accessFlags := 26, slot := 3, constantValue := 0 }, { name := "CASE_INSENSITIVE_ORDER", type := (.object "java/util/Comparator"), accessFlags := 25, slot := 4, constantValue := 0 }, { name := "LATIN1", type := .byte, accessFlags := 24, slot := 5, constantValue := 0 }, { name := "UTF16", type := .byte, accessFlags := 24, slot := 6, constantValue := 0 }]
  methods := #[k9m0, k9m1, k9m2, k9m3, k9m4, k9m5, k9m6]
  instanceTypes := #[(.array .byte), .byte, .int, .boolean]
  staticTypes := #[.long, .boolean, (.array (.object "java/io/ObjectStreamField")), .char, (.object "java/util/Comparator"), .byte, .byte]
  resolved := Array.replicate 1451 none
  statics := some 1 }

def pool10 : Array CpInfo := pool [(1, .class_ 2), (0, u "java/lang/String"), (1, .class_ 6), (1, u "java/lang/Object"), (0, u "<init>"), (0, u "()V"), (0, .methodref 1 10), (0, .nameAndType 11 12), (0, u "checkIndex"), (0, u "(II)V"), (1, .class_ 16), (1, u "java/lang/StringLatin1"), (36, u "([BI)C"), (67, u "$assertionsDisabled"), (0, u "Z"), (98, .class_ 223), (1, u "java/lang/StringLatin1$LinesSpliterator"), (28, u "charAt"), (137, .class_ 391), (0, u "java/lang/StringLatin1$CharsSpliterator")] 3

def k10m0 : Method := { name := "<init>", desc := "()V", sig := { parameters := [], returnType := none }, accessFlags := 0, code := none }
def k10c1 : Code := { maxStack := 2, maxLocals := 2, code := jdk_43_method_2_code, exceptionTable := #[], attributes := #[] }
def k10m1 : Method := { name := "charAt", desc := "([BI)C", sig := { parameters := [(.array .byte), .int], returnType := some .char }, accessFlags := 9, code := some k10c1 }
/-- java/lang/StringLatin1 -/
def k10 : Class := { plain "java/lang/StringLatin1" (some 0) with
  accessFlags := 48
  interfaces := #[]
  cf := some (fileOf pool10 14 #[.nestMembers #[390, 221]] #[{ accessFlags := 0, nameIndex := 7, descriptorIndex := 8, attributes := #[] }, { accessFlags := 9, nameIndex := 252, descriptorIndex := 53, attributes := #[] }] 48 4 #[] #[{ accessFlags := 4120, nameIndex := 121, descriptorIndex := 122, attributes := #[] }])
  fields := #[{ name := "$assertionsDisabled", type := .boolean, accessFlags := 4120, slot := 0, constantValue := 0 }]
  methods := #[k10m0, k10m1]
  instanceTypes := #[]
  staticTypes := #[.boolean]
  resolved := Array.replicate 395 none
  statics := none }

def pool11 : Array CpInfo := pool [(2, .class_ 4), (1, u "java/lang/Object"), (0, u "<init>"), (0, u "()V"), (17, .class_ 26), (1, u "jdk/internal/util/Preconditions"), (6, u "checkIndex"), (21, .class_ 56), (0, u "jdk/internal/util/Preconditions$4"), (57, .class_ 115), (0, u "jdk/internal/util/Preconditions$1"), (7, u "SIOOBE_FORMATTER"), (0, u "Ljava/util/function/BiFunction;"), (0, .class_ 126), (0, u "jdk/internal/util/Preconditions$2"), (3, u "AIOOBE_FORMATTER"), (0, .class_ 132), (0, u "jdk/internal/util/Preconditions$3"), (3, u "IOOBE_FORMATTER"), (41, u "(IILjava/util/function/BiFunction;)I")] 15

def k11m0 : Method := { name := "<init>", desc := "()V", sig := { parameters := [], returnType := none }, accessFlags := 1, code := none }
def k11c1 : Code := { maxStack := 3, maxLocals := 3, code := jdk_41_method_11_code, exceptionTable := #[], attributes := #[] }
def k11m1 : Method := { name := "checkIndex", desc := "(IILjava/util/function/BiFunction;)I", sig := { parameters := [.int, .int, (.object "java/util/function/BiFunction")], returnType := some .int }, accessFlags := 9, code := some k11c1 }
/-- jdk/internal/util/Preconditions -/
def k11 : Class := { plain "jdk/internal/util/Preconditions" (some 0) with
  accessFlags := 33
  interfaces := #[]
  cf := some (fileOf pool11 24 #[.nestMembers #[55, 131, 125, 114]] #[{ accessFlags := 1, nameIndex := 5, descriptorIndex := 6, attributes := #[] }, { accessFlags := 9, nameIndex := 33, descriptorIndex := 178, attributes := #[] }] 33 2 #[] #[{ accessFlags := 25, nameIndex := 123, descriptorIndex := 124, attributes := #[] }, { accessFlags := 25, nameIndex := 130, descriptorIndex := 124, attributes := #[] }, { accessFlags := 25, nameIndex := 136, descriptorIndex := 124, attributes := #[] }])
  fields := #[{ name := "SIOOBE_FORMATTER", type := (.object "java/util/function/BiFunction"), accessFlags := 25, slot := 0, constantValue := 0 }, { name := "AIOOBE_FORMATTER", type := (.object "java/util/function/BiFunction"), accessFlags := 25, slot := 1, constantValue := 0 }, { name := "IOOBE_FORMATTER", type := (.object "java/util/function/BiFunction"), accessFlags := 25, slot := 2, constantValue := 0 }]
  methods := #[k11m0, k11m1]
  instanceTypes := #[]
  staticTypes := #[(.object "java/util/function/BiFunction"), (.object "java/util/function/BiFunction"), (.object "java/util/function/BiFunction")]
  resolved := Array.replicate 194 none
  statics := some 2 }

def pool12 : Array CpInfo := pool [(9, u "<init>"), (6, .class_ 18), (1, u "java/lang/Object"), (0, u "()V"), (1, .class_ 23), (1, u "jdk/internal/util/ArraysSupport"), (0, u "LOG2_ARRAY_LONG_INDEX_SCALE"), (0, u "I"), (2, u "U"), (0, u "Ljdk/internal/misc/Unsafe;"), (8, u "BIG_ENDIAN"), (0, u "Z"), (8, u "LOG2_BYTE_BIT_SIZE"), (4, u "LOG2_ARRAY_INT_INDEX_SCALE"), (54, u "JLA"), (0, u "Ljdk/internal/access/JavaLangAccess;"), (11, u "LOG2_ARRAY_BOOLEAN_INDEX_SCALE"), (9, u "LOG2_ARRAY_BYTE_INDEX_SCALE"), (5, u "LOG2_ARRAY_CHAR_INDEX_SCALE"), (5, u "LOG2_ARRAY_SHORT_INDEX_SCALE"), (18, u "LOG2_ARRAY_FLOAT_INDEX_SCALE"), (24, u "LOG2_ARRAY_DOUBLE_INDEX_SCALE"), (89, u "T_BOOLEAN"), (2, u "T_CHAR"), (1, u "T_FLOAT"), (1, u "T_DOUBLE"), (1, u "T_BYTE"), (1, u "T_SHORT"), (1, u "T_INT"), (1, u "T_LONG"), (1, u "SOFT_MAX_ARRAY_LENGTH")] 83

def k12m0 : Method := { name := "<init>", desc := "()V", sig := { parameters := [], returnType := none }, accessFlags := 2, code := none }
/-- jdk/internal/util/ArraysSupport -/
def k12 : Class := { plain "jdk/internal/util/ArraysSupport" (some 0) with
  accessFlags := 33
  interfaces := #[]
  cf := some (fileOf pool12 21 #[] #[{ accessFlags := 2, nameIndex := 9, descriptorIndex := 19, attributes := #[] }] 33 16 #[] #[{ accessFlags := 24, nameIndex := 28, descriptorIndex := 29, attributes := #[] }, { accessFlags := 26, nameIndex := 38, descriptorIndex := 39, attributes := #[] }, { accessFlags := 25, nameIndex := 121, descriptorIndex := 25, attributes := #[] }, { accessFlags := 25, nameIndex := 131, descriptorIndex := 25, attributes := #[] }, { accessFlags := 25, nameIndex := 137, descriptorIndex := 25, attributes := #[] }, { accessFlags := 25, nameIndex := 143, descriptorIndex := 25, attributes := #[] }, { accessFlags := 25, nameIndex := 53, descriptorIndex := 25, attributes := #[] }, { accessFlags := 25, nameIndex := 24, descriptorIndex := 25, attributes := #[] }, { accessFlags := 25, nameIndex := 162, descriptorIndex := 25, attributes := #[] }, { accessFlags := 25, nameIndex := 187, descriptorIndex := 25, attributes := #[] }, { accessFlags := 26, nameIndex := 48, descriptorIndex := 25, attributes := #[] }, { accessFlags := 25, nameIndex := 277, descriptorIndex := 25, attributes := #[] }, { accessFlags := 25, nameIndex := 280, descriptorIndex := 25, attributes := #[] }, { accessFlags := 25, nameIndex := 282, descriptorIndex := 25, attributes := #[] }, { accessFlags := 25, nameIndex := 284, descriptorIndex := 25, attributes := #[] }, { accessFlags := 25, nameIndex := 286, descriptorIndex := 25, attributes := #[] }, { accessFlags := 25, nameIndex := 288, descriptorIndex := 25, attributes := #[] }, { accessFlags := 25, nameIndex := 290, descriptorIndex := 25, attributes := #[] }, { accessFlags := 25, nameIndex := 292, descriptorIndex := 25, attributes := #[] }, { accessFlags := 26, nameIndex := 108, descriptorIndex := 109, attributes := #[] }, { accessFlags := 25, nameIndex := 294, descriptorIndex := 25, attributes := #[] }])
  fields := #[{ name := "U", type := (.object "jdk/internal/misc/Unsafe"), accessFlags := 24, slot := 0, constantValue := 0 }, { name := "BIG_ENDIAN", type := .boolean, accessFlags := 26, slot := 1, constantValue := 0 }, { name := "LOG2_ARRAY_BOOLEAN_INDEX_SCALE", type := .int, accessFlags := 25, slot := 2, constantValue := 0 }, { name := "LOG2_ARRAY_BYTE_INDEX_SCALE", type := .int, accessFlags := 25, slot := 3, constantValue := 0 }, { name := "LOG2_ARRAY_CHAR_INDEX_SCALE", type := .int, accessFlags := 25, slot := 4, constantValue := 0 }, { name := "LOG2_ARRAY_SHORT_INDEX_SCALE", type := .int, accessFlags := 25, slot := 5, constantValue := 0 }, { name := "LOG2_ARRAY_INT_INDEX_SCALE", type := .int, accessFlags := 25, slot := 6, constantValue := 0 }, { name := "LOG2_ARRAY_LONG_INDEX_SCALE", type := .int, accessFlags := 25, slot := 7, constantValue := 0 }, { name := "LOG2_ARRAY_FLOAT_INDEX_SCALE", type := .int, accessFlags := 25, slot := 8, constantValue := 0 }, { name := "LOG2_ARRAY_DOUBLE_INDEX_SCALE", type := .int, accessFlags := 25, slot := 9, constantValue := 0 }, { name := "LOG2_BYTE_BIT_SIZE", type := .int, accessFlags := 26, slot := 10, constantValue := 0 }, { name := "T_BOOLEAN", type := .int, accessFlags := 25, slot := 11, constantValue := 0 }, { name := "T_CHAR", type := .int, accessFlags := 25, slot := 12, constantValue := 0 }, { name := "T_FLOAT", type := .int, accessFlags := 25, slot := 13, constantValue := 0 }, { name := "T_DOUBLE", type := .int, accessFlags := 25, slot := 14, constantValue := 0 }, { name := "T_BYTE", type := .int, accessFlags := 25, slot := 15, constantValue := 0 }, { name := "T_SHORT", type := .int, accessFlags := 25, slot := 16, constantValue := 0 }, { name := "T_INT", type := .int, accessFlags := 25, slot := 17, constantValue := 0 }, { name := "T_LONG", type := .int, accessFlags := 25, slot := 18, constantValue := 0 }, { name := "JLA", type := (.object "jdk/internal/access/JavaLangAccess"), accessFlags := 26, slot := 19, constantValue := 0 }, { name := "SOFT_MAX_ARRAY_LENGTH", type := .int, accessFlags := 25, slot := 20, constantValue := 0 }]
  methods := #[k12m0]
  instanceTypes := #[]
  staticTypes := #[(.object "jdk/internal/misc/Unsafe"), .boolean, .int, .int, .int, .int, .int, .int, .int, .int, .int, .int, .int, .int, .int, .int, .int, .int, .int, (.object "jdk/internal/access/JavaLangAccess"), .int]
  resolved := Array.replicate 378 none
  statics := none }

def pool13 : Array CpInfo := pool [(1, u "java/lang/Cloneable"), (0, .class_ 1), (0, u "java/lang/Object"), (0, .class_ 3)] 3

/-- java/lang/Cloneable -/
def k13 : Class := { plain "java/lang/Cloneable" (some 0) with
  accessFlags := 1537
  interfaces := #[]
  cf := some (fileOf pool13 2 #[] #[] 1537 4 #[] #[])
  fields := #[]
  methods := #[]
  instanceTypes := #[]
  staticTypes := #[]
  resolved := Array.replicate 8 none
  statics := none }

/-- the primitive byte -/
def k14 : Class := { plain "byte" none with kind := .primitive 'B', accessFlags := 0x411 }
/-- [B -/
def k15 : Class := { plain "[B" (some 0) with kind := .array 14 .byte, interfaces := #[13, 4], accessFlags := 1041 }

/-- the primitive int -/
def k16 : Class := { plain "int" none with kind := .primitive 'I', accessFlags := 0x411 }
/-- [I -/
def k17 : Class := { plain "[I" (some 0) with kind := .array 16 .int, interfaces := #[13, 4], accessFlags := 1041 }

/-- [Lcom/example/balanza/balanza/logic/Comparison; -/
def k18 : Class := { plain "[Lcom/example/balanza/balanza/logic/Comparison;" (some 0) with kind := .array 6 (.object "com/example/balanza/balanza/logic/Comparison"), interfaces := #[13, 4], accessFlags := 1041 }

def heap : Heap := #[{ cls := 6, slots := #[.ref 11, .ref 12, .ref 13, .ref 14, .null], vm := .statics 6 },
  { cls := 9, slots := #[.long 0, .int 1, .null, .int 0, .null, .int 0, .int 0], vm := .statics 9 },
  { cls := 11, slots := #[.null, .null, .null], vm := .statics 11 },
  { cls := 15, slots := #[.int 60], vm := .none },
  { cls := 15, slots := #[.int 60, .int 61], vm := .none },
  { cls := 15, slots := #[.int 62], vm := .none },
  { cls := 15, slots := #[.int 62, .int 61], vm := .none },
  { cls := 9, slots := #[.ref 3, .int 0, .int 0, .int 0], vm := .none },
  { cls := 9, slots := #[.ref 4, .int 0, .int 0, .int 0], vm := .none },
  { cls := 9, slots := #[.ref 5, .int 0, .int 0, .int 0], vm := .none },
  { cls := 9, slots := #[.ref 6, .int 0, .int 0, .int 0], vm := .none },
  { cls := 6, slots := #[.null, .int 0, .int 0, .ref 7], vm := .none },
  { cls := 6, slots := #[.null, .int 1, .int 0, .ref 8], vm := .none },
  { cls := 6, slots := #[.null, .int 2, .int 0, .ref 9], vm := .none },
  { cls := 6, slots := #[.null, .int 3, .int 0, .ref 10], vm := .none }]
def classes : Array Class := #[k0, k1, k2, k3, k4, k5, k6, k7, k8, k9, k10, k11, k12, k13, k14, k15, k16, k17, k18]
def interned : List (Array UInt16 × Addr) := []
def slotsUsed : Nat := 53
def theMethod : MethodId := ⟨1, 1⟩
def args0 : Array Value := #[.int 5, .int 6]
def aboutOver (below : List Frame) : State where
  vm := { classes := classes, interned := interned.toArray }
  heap := heap
  slotsUsed := slotsUsed
  threads := #[{ frames := .invoking theMethod args0 :: below }]
def below0 : List Frame := [.native { method := ⟨0, 0⟩, args := #[] }]
def about1 : State := aboutOver below0
def p0 : Program := .bare "" "" ""
def e0 : Env := launch0.env 0 0 0
theorem w_frames : about1.frames = Frame.invoking theMethod args0 :: below0 := rfl
set_option maxRecDepth 65536 in
theorem w_args : argsFit about1.vm theMethod args0 = true := by decide +kernel
set_option maxRecDepth 65536 in
theorem w_heap : heapFits about1 = true := by decide +kernel
set_option maxRecDepth 65536 in
theorem w_runnable : about1.curStatus? = some .runnable := by decide +kernel
set_option maxRecDepth 65536 in
theorem w_alone : about1.alone = true := by decide +kernel
set_option maxRecDepth 65536 in
theorem w_named : about1.methodNamed? x = some theMethod := by decide +kernel
set_option maxRecDepth 65536 in
theorem w_hears : about1.hears theMethod below0 = true := by decide +kernel
set_option maxRecDepth 65536 in
theorem w_ripe : about1.ripe theMethod args0 below0 = true := by decide +kernel
theorem w_running : about1.status = .running := rfl
set_option maxRecDepth 65536 in
theorem w_room : about1.hasRoom e0.platform room_1 = true :=
  launch0.hasRoom_least _ room_1 (by decide +kernel) (by decide +kernel) (by decide +kernel) (by decide +kernel) (by decide +kernel) (by decide +kernel)
theorem allAtoms_all (ts : List Jvm.Cond) (a : Array Jvm.Value) (st : Jvm.State) : (allAtoms ts).before a st = ts.all (fun c => c.before a st) := by
  induction ts with
  | nil => rfl
  | cons c t ih =>
    show (Jvm.Cond.and c (allAtoms t)).before a st = _
    rw [Jvm.Cond.before_and, ih, List.all_cons]
def words1 : List Jvm.Cond := Jvm.Cond.code x code maxLocals ret :: tables_1
/-- a 'code' word, met by the world's own term for the bytes: nothing is compared byte by byte -/
theorem code_word {y : MethodName} {bytes : ByteArray} {mx : Nat} {rt : Option FieldType} {a : Array Value} {s : State} {m : MethodId} {meth : Method} {c : Code} (h1 : s.methodNamed? y = some m) (h2 : s.vm.method? m = some meth) (h3 : meth.code = some c) (h4 : c.code = bytes)
    (h5 : (c.maxLocals == mx && c.exceptionTable.isEmpty && decide (c.maxStack ≤ mostOperands) && decide (meth.sig.returnType = rt) && !meth.locks && decide (parseMethodDescriptor y.desc = some meth.sig)) = true) : (Jvm.Cond.code y bytes mx rt).before a s = true := by
  simp only [Bool.and_eq_true, beq_iff_eq, Bool.not_eq_true', decide_eq_true_eq] at h5
  obtain ⟨⟨⟨⟨⟨g1, g2⟩, g3⟩, g4⟩, g5⟩, g6⟩ := h5
  simp [Cond.before, Cond.holds, Cond.value, h1, h2, h3, h4, g1, g2, g3, g4, g5, g6]
def isCode : Jvm.Cond → Bool
  | .code _ _ _ _ => true
  | _ => false
theorem all_split {L : List Jvm.Cond} {P : Jvm.Cond → Bool} (h1 : L.all (fun c => isCode c || P c) = true) (h2 : ∀ c ∈ L.filter isCode, P c = true) : L.all P = true := by
  refine List.all_eq_true.mpr fun c hc => ?_
  have h := List.all_eq_true.mp h1 c hc
  rcases Bool.eq_false_or_eq_true (isCode c) with hi | hi
  · exact h2 c (List.mem_filter.mpr ⟨hc, hi⟩)
  · simpa [hi] using h
set_option maxRecDepth 65536 in
theorem w_c0 : (Jvm.Cond.code x code maxLocals ret).before args0 about1 = true := code_word (m := ⟨1, 1⟩) (meth := k1m1) (c := k1c1) (by decide +kernel) rfl rfl rfl (by decide +kernel)
set_option maxRecDepth 65536 in
theorem w_c1 : (Jvm.Cond.code ({ cls := "com/example/balanza/balanza/logic/Comparison", name := "symbol", desc := "()Ljava/lang/String;" } : Jvm.MethodName) prog_49_method_4_code (1 : Nat) (Option.some (Jvm.ClassFile.FieldType.object "java/lang/String"))).before args0 about1 = true := code_word (m := ⟨6, 0⟩) (meth := k6m0) (c := k6c0) (by decide +kernel) rfl rfl rfl (by decide +kernel)
set_option maxRecDepth 65536 in
theorem w_c2 : (Jvm.Cond.code ({ cls := "java/lang/String", name := "isEmpty", desc := "()Z" } : Jvm.MethodName) jdk_42_method_55_code (1 : Nat) (Option.some Jvm.ClassFile.FieldType.boolean)).before args0 about1 = true := code_word (m := ⟨9, 2⟩) (meth := k9m2) (c := k9c2) (by decide +kernel) rfl rfl rfl (by decide +kernel)
set_option maxRecDepth 65536 in
theorem w_c3 : (Jvm.Cond.code ({ cls := "java/lang/String", name := "charAt", desc := "(I)C" } : Jvm.MethodName) jdk_42_method_56_code (2 : Nat) (Option.some Jvm.ClassFile.FieldType.char)).before args0 about1 = true := code_word (m := ⟨9, 3⟩) (meth := k9m3) (c := k9c3) (by decide +kernel) rfl rfl rfl (by decide +kernel)
set_option maxRecDepth 65536 in
theorem w_c4 : (Jvm.Cond.code ({ cls := "java/lang/String", name := "isLatin1", desc := "()Z" } : Jvm.MethodName) jdk_42_method_154_code (1 : Nat) (Option.some Jvm.ClassFile.FieldType.boolean)).before args0 about1 = true := code_word (m := ⟨9, 5⟩) (meth := k9m5) (c := k9c5) (by decide +kernel) rfl rfl rfl (by decide +kernel)
set_option maxRecDepth 65536 in
theorem w_c5 : (Jvm.Cond.code ({ cls := "java/lang/StringLatin1", name := "charAt", desc := "([BI)C" } : Jvm.MethodName) jdk_43_method_2_code (2 : Nat) (Option.some Jvm.ClassFile.FieldType.char)).before args0 about1 = true := code_word (m := ⟨10, 1⟩) (meth := k10m1) (c := k10c1) (by decide +kernel) rfl rfl rfl (by decide +kernel)
set_option maxRecDepth 65536 in
theorem w_c6 : (Jvm.Cond.code ({ cls := "java/lang/String", name := "checkIndex", desc := "(II)V" } : Jvm.MethodName) jdk_42_method_155_code (2 : Nat) (Option.none : Option Jvm.ClassFile.FieldType)).before args0 about1 = true := code_word (m := ⟨9, 6⟩) (meth := k9m6) (c := k9c6) (by decide +kernel) rfl rfl rfl (by decide +kernel)
set_option maxRecDepth 65536 in
theorem w_c7 : (Jvm.Cond.code ({ cls := "jdk/internal/util/Preconditions", name := "checkIndex", desc := "(IILjava/util/function/BiFunction;)I" } : Jvm.MethodName) jdk_41_method_11_code (3 : Nat) (Option.some Jvm.ClassFile.FieldType.int)).before args0 about1 = true := code_word (m := ⟨11, 1⟩) (meth := k11m1) (c := k11c1) (by decide +kernel) rfl rfl rfl (by decide +kernel)
set_option maxRecDepth 65536 in
theorem w_c8 : (Jvm.Cond.code ({ cls := "java/lang/String", name := "length", desc := "()I" } : Jvm.MethodName) jdk_42_method_54_code (1 : Nat) (Option.some Jvm.ClassFile.FieldType.int)).before args0 about1 = true := code_word (m := ⟨9, 1⟩) (meth := k9m1) (c := k9c1) (by decide +kernel) rfl rfl rfl (by decide +kernel)
set_option maxRecDepth 65536 in
theorem w_c9 : (Jvm.Cond.code ({ cls := "java/lang/String", name := "coder", desc := "()B" } : Jvm.MethodName) jdk_42_method_152_code (1 : Nat) (Option.some Jvm.ClassFile.FieldType.byte)).before args0 about1 = true := code_word (m := ⟨9, 4⟩) (meth := k9m4) (c := k9c4) (by decide +kernel) rfl rfl rfl (by decide +kernel)
set_option maxRecDepth 65536 in
theorem w_c10 : (Jvm.Cond.code ({ cls := "com/example/balanza/balanza/logic/Comparison", name := "holds", desc := "(I)Z" } : Jvm.MethodName) prog_49_method_5_code (3 : Nat) (Option.some Jvm.ClassFile.FieldType.boolean)).before args0 about1 = true := code_word (m := ⟨6, 1⟩) (meth := k6m1) (c := k6c1) (by decide +kernel) rfl rfl rfl (by decide +kernel)
set_option maxRecDepth 65536 in
theorem w_c11 : (Jvm.Cond.code ({ cls := "java/lang/Enum", name := "ordinal", desc := "()I" } : Jvm.MethodName) jdk_37_method_2_code (1 : Nat) (Option.some Jvm.ClassFile.FieldType.int)).before args0 about1 = true := code_word (m := ⟨5, 0⟩) (meth := k5m0) (c := k5c0) (by decide +kernel) rfl rfl rfl (by decide +kernel)
def codes1 : List Jvm.Cond := [Jvm.Cond.code x code maxLocals ret, Jvm.Cond.code ({ cls := "com/example/balanza/balanza/logic/Comparison", name := "symbol", desc := "()Ljava/lang/String;" } : Jvm.MethodName) prog_49_method_4_code (1 : Nat) (Option.some (Jvm.ClassFile.FieldType.object "java/lang/String")), Jvm.Cond.code ({ cls := "java/lang/String", name := "isEmpty", desc := "()Z" } : Jvm.MethodName) jdk_42_method_55_code (1 : Nat) (Option.some Jvm.ClassFile.FieldType.boolean), Jvm.Cond.code ({ cls := "java/lang/String", name := "charAt", desc := "(I)C" } : Jvm.MethodName) jdk_42_method_56_code (2 : Nat) (Option.some Jvm.ClassFile.FieldType.char), Jvm.Cond.code ({ cls := "java/lang/String", name := "isLatin1", desc := "()Z" } : Jvm.MethodName) jdk_42_method_154_code (1 : Nat) (Option.some Jvm.ClassFile.FieldType.boolean), Jvm.Cond.code ({ cls := "java/lang/StringLatin1", name := "charAt", desc := "([BI)C" } : Jvm.MethodName) jdk_43_method_2_code (2 : Nat) (Option.some Jvm.ClassFile.FieldType.char), Jvm.Cond.code ({ cls := "java/lang/String", name := "checkIndex", desc := "(II)V" } : Jvm.MethodName) jdk_42_method_155_code (2 : Nat) (Option.none : Option Jvm.ClassFile.FieldType), Jvm.Cond.code ({ cls := "jdk/internal/util/Preconditions", name := "checkIndex", desc := "(IILjava/util/function/BiFunction;)I" } : Jvm.MethodName) jdk_41_method_11_code (3 : Nat) (Option.some Jvm.ClassFile.FieldType.int), Jvm.Cond.code ({ cls := "java/lang/String", name := "length", desc := "()I" } : Jvm.MethodName) jdk_42_method_54_code (1 : Nat) (Option.some Jvm.ClassFile.FieldType.int), Jvm.Cond.code ({ cls := "java/lang/String", name := "coder", desc := "()B" } : Jvm.MethodName) jdk_42_method_152_code (1 : Nat) (Option.some Jvm.ClassFile.FieldType.byte), Jvm.Cond.code ({ cls := "com/example/balanza/balanza/logic/Comparison", name := "holds", desc := "(I)Z" } : Jvm.MethodName) prog_49_method_5_code (3 : Nat) (Option.some Jvm.ClassFile.FieldType.boolean), Jvm.Cond.code ({ cls := "java/lang/Enum", name := "ordinal", desc := "()I" } : Jvm.MethodName) jdk_37_method_2_code (1 : Nat) (Option.some Jvm.ClassFile.FieldType.int)]
set_option maxRecDepth 65536 in
theorem codes_eq : words1.filter isCode = codes1 := rfl
theorem w_codes : ∀ c ∈ words1.filter isCode, c.before args0 about1 = true := by
  rw [codes_eq]
  intro c hc
  simp only [codes1, List.mem_cons, List.not_mem_nil, or_false] at hc
  rcases hc with rfl | rfl | rfl | rfl | rfl | rfl | rfl | rfl | rfl | rfl | rfl | rfl
  · exact w_c0
  · exact w_c1
  · exact w_c2
  · exact w_c3
  · exact w_c4
  · exact w_c5
  · exact w_c6
  · exact w_c7
  · exact w_c8
  · exact w_c9
  · exact w_c10
  · exact w_c11
set_option maxRecDepth 65536 in
theorem w_t1 : (words1.take 24).all (fun c => isCode c || c.before args0 about1) = true := by decide +kernel
set_option maxRecDepth 65536 in
theorem w_t2 : ((words1.drop 24).take 24).all (fun c => isCode c || c.before args0 about1) = true := by decide +kernel
set_option maxRecDepth 65536 in
theorem w_t3 : (((words1.drop 24).drop 24).take 24).all (fun c => isCode c || c.before args0 about1) = true := by decide +kernel
set_option maxRecDepth 65536 in
theorem w_t4 : (((words1.drop 24).drop 24).drop 24).all (fun c => isCode c || c.before args0 about1) = true := by decide +kernel
theorem w_tables : (allAtoms (Jvm.Cond.code x code maxLocals ret :: tables_1)).before args0 about1 = true := by
  rw [allAtoms_all]
  show words1.all (fun c => c.before args0 about1) = true
  refine all_split ?_ w_codes
  rw [← List.take_append_drop 24 words1, List.all_append, w_t1, ← List.take_append_drop 24 (words1.drop 24), List.all_append, w_t2, ← List.take_append_drop 24 ((words1.drop 24).drop 24), List.all_append, w_t3, w_t4]
  rfl
set_option maxRecDepth 65536 in
theorem w_rest : rest_1_c.before args0 about1 = true := by decide +kernel
set_option maxRecDepth 65536 in
theorem w_case : (Jvm.Cond.and given_1 narrow_1).before args0 about1 = true := by decide +kernel
theorem w_applies : (headSpec (Jvm.Cond.code x code maxLocals ret :: tables_1) room_1).applies x e0.platform about1 = true :=
  (Spec.applies_iff w_frames).mpr ⟨w_running, w_runnable, w_alone, w_named, w_hears, w_ripe, w_room, w_tables⟩
theorem atStart : AtStart classFile x code maxLocals ret World_1 tables_1 room_1 Calls_1 rest_1 Pre_1 launch0 p0 e0 about1 theMethod args0 below0 :=
  ⟨lists_1, trivial, launch0.admits_env _ _ _, launch0.least_env, fairChoices_fair.cas, fairChoices_fair.clock, w_frames, w_args, w_heap, w_applies, trivial, w_rest, w_case⟩
end start1
theorem witness_1 : WitnessClaimed_1 := ⟨start1.p0, start1.e0, start1.about1, start1.theMethod, start1.args0, start1.below0, start1.atStart⟩
end Jvm.Pilot.@@N@@
