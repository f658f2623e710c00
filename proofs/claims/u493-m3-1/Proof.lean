import JvmDerived
import JvmDerived.Pilot.@@N@@Statement
import JvmDerived.Pilot.@@N@@Code
set_option linter.unusedVariables false
set_option linter.unusedSimpArgs false
namespace Jvm.RoadKit
open Sem ClassFile Op Lib Jvm.Stand Jvm.Free Jvm.LawKit
section New
variable {p : Program} {l : Launch} {e : Env} {R : Room} {s : State} {m : MethodId} {args : Array Value} {below : List Frame} {meth : Method} {c : Code} {T : State} {locs : List Loc} {cells slots : Nat}
theorem retI (X : Stand p l e R s m args below meth c T locs cells slots) (hx : p.tables.exec = Jvm.exec) {pc : Nat} {Ls : Array Slot} {z : Int32} {rest : List Value} (hret : meth.sig.returnType = some .int) (hd : decode c.code pc = .ok (.ireturn, 1)) {fs : List Frame}
    (hl : ∀ (f : JFrame) (acts : List Action), f.method = m → f.locked = none → f.entered = [] → (doReturn e (T.setTop f) acts (some (.int z))).1 = T.setFrames fs) : Steps p.tables e below (T.setTop (mkF m pc Ls (.int z :: rest))) (T.setFrames fs) := by
  have hm' : T.vm.method? m = some meth := X.method'
  have hn : narrow .int (.int z) = .int z := rfl
  show Steps p.tables e below (T.setTop { method := m, pc := pc, locals := Ls, stack := _ :: rest, locked := none }) _
  jvm_step X.here [X.here.top, hx, hd, hm', hret, hn]
  first | (intro acts; rw [hl _ acts rfl rfl rfl]) | rw [hl _ _ rfl rfl rfl]
  exact Steps.refl _
end New
end Jvm.RoadKit
namespace Jvm.Pilot.@@N@@
open Jvm Jvm.ClassFile Sem Op Lib Jvm.Free Jvm.Stand Jvm.LawKit Jvm.RoadKit Bundle Jvm.Pilot.@@N@@.Jvm.D

/-- what a body leaves that returns r and writes nothing -/
def QR (r : Value) (h0 : Heap) (n0 : Nat) (v : Option Value) (h : Heap) (L : List Loc) : Prop := v = some r ∧ Fr n0 L ∧ h = h0
/-- what a body leaves that returns nothing and writes nothing -/
def QN (h0 : Heap) (n0 : Nat) (v : Option Value) (h : Heap) (L : List Loc) : Prop := v = none ∧ Fr n0 L ∧ h = h0

theorem own_nn (x : Int32) : 0 ≤ (x &&& (2147483647 : Int32)).toInt := by
  have := c_mask x (2147483647 : Int32) 31 (by decide) (by decide)
  omega
theorem own_len (x : Int32) : (((x &&& (2147483647 : Int32)) % (3 : Int32)) + (1 : Int32)) = (1 : Int32) ∨ (((x &&& (2147483647 : Int32)) % (3 : Int32)) + (1 : Int32)) = (2 : Int32) ∨ (((x &&& (2147483647 : Int32)) % (3 : Int32)) + (1 : Int32)) = (3 : Int32) := by
  have h := (c_irem (x &&& (2147483647 : Int32)) (3 : Int32) 3 (by decide)).1 (own_nn x)
  have q : ((x &&& (2147483647 : Int32)) % (3 : Int32)).toInt = 0 ∨ ((x &&& (2147483647 : Int32)) % (3 : Int32)).toInt = 1 ∨ ((x &&& (2147483647 : Int32)) % (3 : Int32)).toInt = 2 := by omega
  rcases q with q | q | q
  · have e : ((x &&& (2147483647 : Int32)) % (3 : Int32)) = 0 := Int32.toInt_inj.mp (by rw [q]; decide)
    exact Or.inl (by rw [e]; decide)
  · have e : ((x &&& (2147483647 : Int32)) % (3 : Int32)) = 1 := Int32.toInt_inj.mp (by rw [q]; decide)
    exact Or.inr (Or.inl (by rw [e]; decide))
  · have e : ((x &&& (2147483647 : Int32)) % (3 : Int32)) = 2 := Int32.toInt_inj.mp (by rw [q]; decide)
    exact Or.inr (Or.inr (by rw [e]; decide))
/-- a number from 1 to y, for y up to 3 -/
theorem own_w (x y : Int32) (h0 : 0 < y.toInt) (h3 : y.toInt ≤ 3) : ∃ w : Int32, (((x &&& (2147483647 : Int32)) % y) + (1 : Int32)) = w ∧ ¬ (w < (1 : Int32)) ∧ ¬ (y < w) ∧ 0 < w.toInt := by
  refine ⟨_, rfl, ?_⟩
  obtain ⟨q1, q2, -⟩ := (c_iremV (x &&& (2147483647 : Int32)) y).1 (own_nn x) h0
  have e1 : (1 : Int32).toInt = 1 := by decide
  have c := c_iadd ((x &&& (2147483647 : Int32)) % y) (1 : Int32)
  have r := rng32 (((x &&& (2147483647 : Int32)) % y) + (1 : Int32))
  rw [Int32.lt_iff_toInt_lt, Int32.lt_iff_toInt_lt]
  omega
/-- a number from 0 below y -/
theorem own_e (x y : Int32) (h0 : 0 < y.toInt) : ∃ e : Int32, ((x &&& (2147483647 : Int32)) % y) = e ∧ ¬ (e < (0 : Int32)) ∧ e < y := by
  refine ⟨_, rfl, ?_⟩
  obtain ⟨q1, q2, -⟩ := (c_iremV (x &&& (2147483647 : Int32)) y).1 (own_nn x) h0
  have e0 : (0 : Int32).toInt = 0 := by decide
  rw [Int32.lt_iff_toInt_lt, Int32.lt_iff_toInt_lt]
  omega
theorem own_ne0 {y : Int32} (h0 : 0 < y.toInt) : y ≠ 0 := fun q => by
  rw [q] at h0
  exact absurd h0 (by decide)

theorem d2_0 : decode prog_25_method_4_code 0 = .ok (.iload_n 0, 1) := by decide +kernel
theorem d2_1 : decode prog_25_method_4_code 1 = .ok (.iconst 1, 1) := by decide +kernel
theorem d2_2 : decode prog_25_method_4_code 2 = .ok (.if_icmp .lt 8, 3) := by decide +kernel
theorem d2_5 : decode prog_25_method_4_code 5 = .ok (.iload_n 0, 1) := by decide +kernel
theorem d2_6 : decode prog_25_method_4_code 6 = .ok (.iload_n 1, 1) := by decide +kernel
theorem d2_7 : decode prog_25_method_4_code 7 = .ok (.if_icmp .le 43, 3) := by decide +kernel
theorem d2_50 : decode prog_25_method_4_code 50 = .ok (.return_, 1) := by decide +kernel
theorem pn_2 : plainName "com/example/ballast/ballast/Placement" = true := by first | (simp [plainName, overriddenIn]; done) | decide +kernel
theorem ef_2 (m : MethodId) (x0 : Int32) (x1 : Int32) : entryFrame m #[(.int x0), (.int x1)] 3 = mkF m 0 #[.val (.int x0), .val (.int x1), .unset] [] := by first | (simp [entryFrame, mkF, argsToLocals, Value.category]; done) | rfl
set_option maxRecDepth 65536 in
set_option maxHeartbeats 40000000 in
theorem rm2 (l : Launch) (Z : State) (a0 : Array Value) (hw : ∀ d ∈ tables_1, d.before a0 Z = true) (ws : List Jvm.Cond) (p1 : Int32) (p2 : Int32) (h0 : Heap) (n0 : Nat) (Z0 : n0 ≤ h0.size) (hc2 : ¬ (p1 < (1 : Int32))) (hc7 : ¬ (p2 < p1)) :
    MetFree l (⟨"com/example/ballast/ballast/Placement", "checkWorkers", "(II)V"⟩ : MethodName) (head1 (Jvm.Cond.code (⟨"com/example/ballast/ballast/Placement", "checkWorkers", "(II)V"⟩ : MethodName) prog_25_method_4_code 3 none :: ws) ({ frames := 0, cells := 0, slots := 0, locals := 0 } : Room)) (fun a U => a = #[(.int p1), (.int p2)] ∧ Z.Warmed39 U.vm ∧ U.heap = h0) (fun _ _ _ _ _ => True) (fun _ U o U' => ∃ v L, o = .returned v ∧ QN h0 n0 v U'.heap L ∧ FrameEnd U o U' L ({ frames := 0, cells := 0, slots := 0, locals := 0 } : Room).cells ({ frames := 0, cells := 0, slots := 0, locals := 0 } : Room).slots) := by
  refine MetFree.of_bodySF (plainFor_of_name pn_2) hisR ?_
  intro p e s m args below meth c s₁ Bd hml0 hP hK
  obtain ⟨rfl, hZ, hh⟩ := hP
  have hx := Bd.exec
  have hby := Bd.bytes
  have hml : c.maxLocals = 3 := hml0
  have hown : s.vm.findClass "com/example/ballast/ballast/Placement" = some m.cls := findClass_of_methodNamed Bd.named
  have hnm := (name_of_methodNamed Bd.named Bd.method).1
  have X0 : Stand p l e ({ frames := 0, cells := 0, slots := 0, locals := 0 } : Room) s m #[(.int p1), (.int p2)] below meth c s₁ [] 0 0 := Stand.of_body Bd
  have e0 : s₁.heap = h0 := by rw [← hh, Bd.state]; rfl
  have N0 := Fr.nil n0
  have pre0 : ∀ t, Steps p.tables e below (s₁.setTop (mkF m 0 #[.val (.int p1), .val (.int p2), .unset] [])) t → Steps p.tables e below (s₁.setTop (entryFrame m #[(.int p1), (.int p2)] 3)) t := fun t k => castTop (ef_2 m p1 p2) k

  obtain ⟨fs, hr, hrun, hended, hW, hsame⟩ := X0.leave (v := none) (fun _ => rfl)
  refine ⟨_, _, pre0 _ ?_, hrun, hended, _, _, rfl, ?_, ⟨_, rfl⟩, hW, hsame.mono (by decide) (by decide)⟩
  · show Steps p.tables e below (s₁.setTop (mkF m 0 #[.val (.int p1), .val (.int p2), .unset] [])) _
    refine XS.iloadN X0.here hx rfl (hb hby d2_0) rfl ?_
    show Steps p.tables e below (s₁.setTop (mkF m 1 #[.val (.int p1), .val (.int p2), .unset] [(.int p1)])) _
    refine XS.iconst X0.here hx rfl (hb hby d2_1) ?_
    show Steps p.tables e below (s₁.setTop (mkF m 2 #[.val (.int p1), .val (.int p2), .unset] [(.int (1 : Int32)), (.int p1)])) _
    refine XS.icmpNo X0.here hx rfl (hb hby d2_2) rfl (flt hc2).1 ?_
    show Steps p.tables e below (s₁.setTop (mkF m 5 #[.val (.int p1), .val (.int p2), .unset] [])) _
    refine XS.iloadN X0.here hx rfl (hb hby d2_5) rfl ?_
    show Steps p.tables e below (s₁.setTop (mkF m 6 #[.val (.int p1), .val (.int p2), .unset] [(.int p1)])) _
    refine XS.iloadN X0.here hx rfl (hb hby d2_6) rfl ?_
    show Steps p.tables e below (s₁.setTop (mkF m 7 #[.val (.int p1), .val (.int p2), .unset] [(.int p2), (.int p1)])) _
    refine XS.icmpYes X0.here hx rfl (pc0 := 7) (pc' := 50) rfl (hb hby d2_7) rfl (flt hc7).2.2.2 (by decide) (by decide) ?_
    show Steps p.tables e below (s₁.setTop (mkF m 50 #[.val (.int p1), .val (.int p2), .unset] [])) _
    exact X0.returnOut hx Bd.returns (hb hby d2_50) hr
  · show QN h0 n0 _ s₁.heap _
    rw [e0]
    exact ⟨rfl, N0, rfl⟩

theorem d3_0 : decode prog_25_method_1_code 0 = .ok (.aload_n 0, 1) := by decide +kernel
theorem d3_1 : decode prog_25_method_1_code 1 = .ok (.invokespecial 1, 3) := by decide +kernel
theorem d3_4 : decode prog_25_method_1_code 4 = .ok (.aload_n 0, 1) := by decide +kernel
theorem d3_5 : decode prog_25_method_1_code 5 = .ok (.iload_n 1, 1) := by decide +kernel
theorem d3_6 : decode prog_25_method_1_code 6 = .ok (.putfield 7, 3) := by decide +kernel
theorem d3_9 : decode prog_25_method_1_code 9 = .ok (.aload_n 0, 1) := by decide +kernel
theorem d3_10 : decode prog_25_method_1_code 10 = .ok (.aload_n 2, 1) := by decide +kernel
theorem d3_11 : decode prog_25_method_1_code 11 = .ok (.putfield 13, 3) := by decide +kernel
theorem d3_14 : decode prog_25_method_1_code 14 = .ok (.return_, 1) := by decide +kernel
theorem pn_3 : plainName "com/example/ballast/ballast/Placement" = true := by first | (simp [plainName, overriddenIn]; done) | decide +kernel
theorem ef_3 (m : MethodId) (x0 : Addr) (x1 : Int32) (x2 : Addr) : entryFrame m #[(.ref x0), (.int x1), (.ref x2)] 3 = mkF m 0 #[.val (.ref x0), .val (.int x1), .val (.ref x2)] [] := by first | (simp [entryFrame, mkF, argsToLocals, Value.category]; done) | rfl
def Q3 (Z : State) (a1 : Addr) (p2 : Int32) (a3 : Addr) (u_workers_a1 : Value) (u_workerOf_a1 : Value) (h0 : Heap) (n0 : Nat) (v : Option Value) (h : Heap) (L : List Loc) : Prop := v = none ∧ Fr n0 L ∧ Keep h0 h [a1] ∧ Exa Z h a1 "com/example/ballast/ballast/Placement" ∧ Fld Z h a1 "com/example/ballast/ballast/Placement" "workers" "I" (.int p2) ∧ Fld Z h a1 "com/example/ballast/ballast/Placement" "workerOf" "[I" (.ref a3)
set_option maxRecDepth 65536 in
set_option maxHeartbeats 40000000 in
theorem rm3 (l : Launch) (Z : State) (a0 : Array Value) (hw : ∀ d ∈ tables_1, d.before a0 Z = true) (ws : List Jvm.Cond) (a1 : Addr) (p2 : Int32) (a3 : Addr) (u_workers_a1 : Value) (u_workerOf_a1 : Value) (h0 : Heap) (n0 : Nat) (Z0 : n0 ≤ h0.size) (E_a1 : Exa Z h0 a1 "com/example/ballast/ballast/Placement") (F_workers_a1 : Fld Z h0 a1 "com/example/ballast/ballast/Placement" "workers" "I" u_workers_a1) (g_a1 : n0 ≤ a1) (F_workerOf_a1 : Fld Z h0 a1 "com/example/ballast/ballast/Placement" "workerOf" "[I" u_workerOf_a1) :
    MetFree l (⟨"com/example/ballast/ballast/Placement", "<init>", "(I[I)V"⟩ : MethodName) (head1 (Jvm.Cond.code (⟨"com/example/ballast/ballast/Placement", "<init>", "(I[I)V"⟩ : MethodName) prog_25_method_1_code 3 none :: ws) ({ frames := 1, cells := 0, slots := 0, locals := 12 } : Room)) (fun a U => a = #[(.ref a1), (.int p2), (.ref a3)] ∧ Z.Warmed39 U.vm ∧ U.heap = h0) (fun _ _ _ _ _ => True) (fun _ U o U' => ∃ v L, o = .returned v ∧ Q3 Z a1 p2 a3 u_workers_a1 u_workerOf_a1 h0 n0 v U'.heap L ∧ FrameEnd U o U' L ({ frames := 1, cells := 0, slots := 0, locals := 12 } : Room).cells ({ frames := 1, cells := 0, slots := 0, locals := 12 } : Room).slots) := by
  refine MetFree.of_bodySF (plainFor_of_name pn_3) hisR ?_
  intro p e s m args below meth c s₁ Bd hml0 hP hK
  obtain ⟨rfl, hZ, hh⟩ := hP
  have hx := Bd.exec
  have hby := Bd.bytes
  have hml : c.maxLocals = 3 := hml0
  have hown : s.vm.findClass "com/example/ballast/ballast/Placement" = some m.cls := findClass_of_methodNamed Bd.named
  have hnm := (name_of_methodNamed Bd.named Bd.method).1
  have X0 : Stand p l e ({ frames := 1, cells := 0, slots := 0, locals := 12 } : Room) s m #[(.ref a1), (.int p2), (.ref a3)] below meth c s₁ [] 0 0 := Stand.of_body Bd
  have e0 : s₁.heap = h0 := by rw [← hh, Bd.state]; rfl
  have N0 := Fr.nil n0
  have pre0 : ∀ t, Steps p.tables e below (s₁.setTop (mkF m 0 #[.val (.ref a1), .val (.int p2), .val (.ref a3)] [])) t → Steps p.tables e below (s₁.setTop (entryFrame m #[(.ref a1), (.int p2), (.ref a3)] 3)) t := fun t k => castTop (ef_3 m a1 p2 a3) k
  obtain ⟨T4, X4, e4, st4⟩ := initO X0 hx hZ hown (hw _ (List.mem_of_getElem? (i := 23) rfl)) (hw _ (List.mem_of_getElem? (i := 24) rfl)) (hw _ (List.mem_of_getElem? (i := 25) rfl)) e0 (g := (mkF m 1 #[.val (.ref a1), .val (.int p2), .val (.ref a3)] [(.ref a1)])) rfl (by rw [hml]; rfl) rfl (hb hby d3_1) (by decide) (W := 0) (by show 2 * 0 + _ ≤ _; exact Nat.le_of_eq rfl) (by decide)
  obtain ⟨T5, h5, X5, e5, W5, st5⟩ := putF X4 hx hZ hown (host := "") (Or.inl (hw _ (List.mem_of_getElem? (i := 26) rfl))) Via.refl e4 F_workers_a1 E_a1 (Or.inr ⟨(hw _ (List.mem_of_getElem? (i := 27) rfl)), rfl, hnm⟩) (hw _ (List.mem_of_getElem? (i := 10) rfl)) (ty := .int) (by decide) rfl rfl (g := (mkF m 6 #[.val (.ref a1), .val (.int p2), .val (.ref a3)] [(.int p2), (.ref a1)])) rfl rfl (hb hby d3_6)
  have Fw5 := F_workers_a1.same W5
  have K5 : Keep h0 h5 [a1] := (Keep.refl h0 [a1]).wr W5 (Or.inl (List.mem_of_getElem? (i := 0) rfl))
  have N5 := Fr.snoc X5 N0 g_a1
  obtain ⟨T6, h6, X6, e6, W6, st6⟩ := putF X5 hx hZ hown (host := "") (Or.inl (hw _ (List.mem_of_getElem? (i := 28) rfl))) Via.refl e5 (F_workerOf_a1.other W5 (Or.inr (slot_ne (Or.inr (hw _ (List.mem_of_getElem? (i := 29) rfl))) (Or.inr (hw _ (List.mem_of_getElem? (i := 27) rfl))) (by decide) (t := (.array .int)) (t' := .int) (by decide) (by decide)))) (E_a1.wr W5) (Or.inr ⟨(hw _ (List.mem_of_getElem? (i := 29) rfl)), rfl, hnm⟩) (hw _ (List.mem_of_getElem? (i := 10) rfl)) (ty := (.array .int)) (by decide) rfl rfl (g := (mkF m 11 #[.val (.ref a1), .val (.int p2), .val (.ref a3)] [(.ref a3), (.ref a1)])) rfl rfl (hb hby d3_11)
  have Fw6 := (F_workerOf_a1.other W5 (Or.inr (slot_ne (Or.inr (hw _ (List.mem_of_getElem? (i := 29) rfl))) (Or.inr (hw _ (List.mem_of_getElem? (i := 27) rfl))) (by decide) (t := (.array .int)) (t' := .int) (by decide) (by decide)))).same W6
  have K6 : Keep h0 h6 [a1] := K5.wr W6 (Or.inl (List.mem_of_getElem? (i := 0) rfl))
  have N6 := Fr.snoc X6 N5 g_a1
  obtain ⟨fs, hr, hrun, hended, hW, hsame⟩ := X6.leave (v := none) (fun _ => rfl)
  refine ⟨_, _, pre0 _ ?_, hrun, hended, _, _, rfl, ?_, ⟨_, rfl⟩, hW, hsame.mono (by decide) (by decide)⟩
  · show Steps p.tables e below (s₁.setTop (mkF m 0 #[.val (.ref a1), .val (.int p2), .val (.ref a3)] [])) _
    refine XS.aloadN X0.here hx rfl (hb hby d3_0) rfl rfl ?_
    show Steps p.tables e below (s₁.setTop (mkF m 1 #[.val (.ref a1), .val (.int p2), .val (.ref a3)] [(.ref a1)])) _
    refine st4 _ ?_
    show Steps p.tables e below (T4.setTop (mkF m 4 #[.val (.ref a1), .val (.int p2), .val (.ref a3)] [])) _
    refine XS.aloadN X4.here hx rfl (hb hby d3_4) rfl rfl ?_
    show Steps p.tables e below (T4.setTop (mkF m 5 #[.val (.ref a1), .val (.int p2), .val (.ref a3)] [(.ref a1)])) _
    refine XS.iloadN X4.here hx rfl (hb hby d3_5) rfl ?_
    show Steps p.tables e below (T4.setTop (mkF m 6 #[.val (.ref a1), .val (.int p2), .val (.ref a3)] [(.int p2), (.ref a1)])) _
    refine st5 _ ?_
    show Steps p.tables e below (T5.setTop (mkF m 9 #[.val (.ref a1), .val (.int p2), .val (.ref a3)] [])) _
    refine XS.aloadN X5.here hx rfl (hb hby d3_9) rfl rfl ?_
    show Steps p.tables e below (T5.setTop (mkF m 10 #[.val (.ref a1), .val (.int p2), .val (.ref a3)] [(.ref a1)])) _
    refine XS.aloadN X5.here hx rfl (hb hby d3_10) rfl rfl ?_
    show Steps p.tables e below (T5.setTop (mkF m 11 #[.val (.ref a1), .val (.int p2), .val (.ref a3)] [(.ref a3), (.ref a1)])) _
    refine st6 _ ?_
    show Steps p.tables e below (T6.setTop (mkF m 14 #[.val (.ref a1), .val (.int p2), .val (.ref a3)] [])) _
    exact X6.returnOut hx Bd.returns (hb hby d3_14) hr
  · show Q3 Z a1 p2 a3 u_workers_a1 u_workerOf_a1 h0 n0 _ T6.heap _
    rw [e6]
    exact ⟨rfl, N6, K6, ((E_a1.wr W5).wr W6), (Fw5.other W6 (Or.inr (slot_ne (Or.inr (hw _ (List.mem_of_getElem? (i := 27) rfl))) (Or.inr (hw _ (List.mem_of_getElem? (i := 29) rfl))) (by decide) (t := .int) (t' := (.array .int)) (by decide) (by decide)))), Fw6⟩

theorem d5_0 : decode prog_25_method_5_code 0 = .ok (.aload_n 0, 1) := by decide +kernel
theorem d5_1 : decode prog_25_method_5_code 1 = .ok (.getfield 13, 3) := by decide +kernel
theorem d5_4 : decode prog_25_method_5_code 4 = .ok (.arraylength, 1) := by decide +kernel
theorem d5_5 : decode prog_25_method_5_code 5 = .ok (.ireturn, 1) := by decide +kernel
theorem pn_5 : plainName "com/example/ballast/ballast/Placement" = true := by first | (simp [plainName, overriddenIn]; done) | decide +kernel
theorem ef_5 (m : MethodId) (x0 : Addr) : entryFrame m #[(.ref x0)] 1 = mkF m 0 #[.val (.ref x0)] [] := by first | (simp [entryFrame, mkF, argsToLocals, Value.category]; done) | rfl
def Q5 (Z : State) (a1 : Addr) (w2 : Addr) (cl_w2 : Cell) (z_w2 : Int32) (h0 : Heap) (n0 : Nat) (v : Option Value) (h : Heap) (L : List Loc) : Prop := v = some (.int z_w2) ∧ Fr n0 L ∧ h = h0
set_option maxRecDepth 65536 in
set_option maxHeartbeats 40000000 in
theorem rm5 (l : Launch) (Z : State) (a0 : Array Value) (hw : ∀ d ∈ tables_1, d.before a0 Z = true) (ws : List Jvm.Cond) (a1 : Addr) (w2 : Addr) (cl_w2 : Cell) (z_w2 : Int32) (h0 : Heap) (n0 : Nat) (Z0 : n0 ≤ h0.size) (F_workerOf_a1 : Fld Z h0 a1 "com/example/ballast/ballast/Placement" "workerOf" "[I" (.ref w2)) (Ar_w2 : Arr Z h0 w2 cl_w2 .int) (S_w2 : cl_w2.slots.size = z_w2.toNatClampNeg) (N_w2 : ¬ z_w2 < 0) :
    MetFree l (⟨"com/example/ballast/ballast/Placement", "partitions", "()I"⟩ : MethodName) (head1 (Jvm.Cond.code (⟨"com/example/ballast/ballast/Placement", "partitions", "()I"⟩ : MethodName) prog_25_method_5_code 1 (some .int) :: ws) ({ frames := 0, cells := 0, slots := 0, locals := 0 } : Room)) (fun a U => a = #[(.ref a1)] ∧ Z.Warmed39 U.vm ∧ U.heap = h0) (fun _ _ _ _ _ => True) (fun _ U o U' => ∃ v L, o = .returned v ∧ Q5 Z a1 w2 cl_w2 z_w2 h0 n0 v U'.heap L ∧ FrameEnd U o U' L ({ frames := 0, cells := 0, slots := 0, locals := 0 } : Room).cells ({ frames := 0, cells := 0, slots := 0, locals := 0 } : Room).slots) := by
  refine MetFree.of_bodySF (plainFor_of_name pn_5) hisR ?_
  intro p e s m args below meth c s₁ Bd hml0 hP hK
  obtain ⟨rfl, hZ, hh⟩ := hP
  have hx := Bd.exec
  have hby := Bd.bytes
  have hml : c.maxLocals = 1 := hml0
  have hown : s.vm.findClass "com/example/ballast/ballast/Placement" = some m.cls := findClass_of_methodNamed Bd.named
  have hnm := (name_of_methodNamed Bd.named Bd.method).1
  have X0 : Stand p l e ({ frames := 0, cells := 0, slots := 0, locals := 0 } : Room) s m #[(.ref a1)] below meth c s₁ [] 0 0 := Stand.of_body Bd
  have e0 : s₁.heap = h0 := by rw [← hh, Bd.state]; rfl
  have N0 := Fr.nil n0
  have pre0 : ∀ t, Steps p.tables e below (s₁.setTop (mkF m 0 #[.val (.ref a1)] [])) t → Steps p.tables e below (s₁.setTop (entryFrame m #[(.ref a1)] 1)) t := fun t k => castTop (ef_5 m a1) k
  obtain ⟨T3, X3, e3, st3⟩ := getF X0 hx hZ hown (host := "") (Or.inl (hw _ (List.mem_of_getElem? (i := 28) rfl))) Via.refl e0 F_workerOf_a1 (g := (mkF m 1 #[.val (.ref a1)] [(.ref a1)])) rfl rfl (hb hby d5_1)
  obtain ⟨fs, hr, hrun, hended, hW, hsame⟩ := X3.leave (v := some (.int z_w2)) (fun h => by rw [Bd.returns] at h; cases h)
  refine ⟨_, _, pre0 _ ?_, hrun, hended, _, _, rfl, ?_, ⟨_, rfl⟩, hW, hsame.mono (by decide) (by decide)⟩
  · show Steps p.tables e below (s₁.setTop (mkF m 0 #[.val (.ref a1)] [])) _
    refine XS.aloadN X0.here hx rfl (hb hby d5_0) rfl rfl ?_
    show Steps p.tables e below (s₁.setTop (mkF m 1 #[.val (.ref a1)] [(.ref a1)])) _
    refine st3 _ ?_
    show Steps p.tables e below (T3.setTop (mkF m 4 #[.val (.ref a1)] [(.ref w2)])) _
    refine X3.arraylength hx (by rw [e3]; exact Ar_w2.1) (State.isArrayOf_alike hZ.alike Ar_w2.2.1) (g := (mkF m 4 #[.val (.ref a1)] [(.ref w2)])) rfl rfl (hb hby d5_4) _ ?_
    rw [len_of S_w2 N_w2]
    show Steps p.tables e below (T3.setTop (mkF m 5 #[.val (.ref a1)] [(.int z_w2)])) _
    exact retI X3 hx Bd.returns (hb hby d5_5) hr
  · show Q5 Z a1 w2 cl_w2 z_w2 h0 n0 _ T3.heap _
    rw [e3]
    exact ⟨rfl, N0, rfl⟩

theorem d6_0 : decode prog_25_method_6_code 0 = .ok (.aload_n 0, 1) := by decide +kernel
theorem d6_1 : decode prog_25_method_6_code 1 = .ok (.getfield 7, 3) := by decide +kernel
theorem d6_4 : decode prog_25_method_6_code 4 = .ok (.ireturn, 1) := by decide +kernel
theorem pn_6 : plainName "com/example/ballast/ballast/Placement" = true := by first | (simp [plainName, overriddenIn]; done) | decide +kernel
theorem ef_6 (m : MethodId) (x0 : Addr) : entryFrame m #[(.ref x0)] 1 = mkF m 0 #[.val (.ref x0)] [] := by first | (simp [entryFrame, mkF, argsToLocals, Value.category]; done) | rfl
def Q6 (Z : State) (a1 : Addr) (w2 : Int32) (h0 : Heap) (n0 : Nat) (v : Option Value) (h : Heap) (L : List Loc) : Prop := v = some (.int w2) ∧ Fr n0 L ∧ h = h0
set_option maxRecDepth 65536 in
set_option maxHeartbeats 40000000 in
theorem rm6 (l : Launch) (Z : State) (a0 : Array Value) (hw : ∀ d ∈ tables_1, d.before a0 Z = true) (ws : List Jvm.Cond) (a1 : Addr) (w2 : Int32) (h0 : Heap) (n0 : Nat) (Z0 : n0 ≤ h0.size) (F_workers_a1 : Fld Z h0 a1 "com/example/ballast/ballast/Placement" "workers" "I" (.int w2)) :
    MetFree l (⟨"com/example/ballast/ballast/Placement", "workers", "()I"⟩ : MethodName) (head1 (Jvm.Cond.code (⟨"com/example/ballast/ballast/Placement", "workers", "()I"⟩ : MethodName) prog_25_method_6_code 1 (some .int) :: ws) ({ frames := 0, cells := 0, slots := 0, locals := 0 } : Room)) (fun a U => a = #[(.ref a1)] ∧ Z.Warmed39 U.vm ∧ U.heap = h0) (fun _ _ _ _ _ => True) (fun _ U o U' => ∃ v L, o = .returned v ∧ Q6 Z a1 w2 h0 n0 v U'.heap L ∧ FrameEnd U o U' L ({ frames := 0, cells := 0, slots := 0, locals := 0 } : Room).cells ({ frames := 0, cells := 0, slots := 0, locals := 0 } : Room).slots) := by
  refine MetFree.of_bodySF (plainFor_of_name pn_6) hisR ?_
  intro p e s m args below meth c s₁ Bd hml0 hP hK
  obtain ⟨rfl, hZ, hh⟩ := hP
  have hx := Bd.exec
  have hby := Bd.bytes
  have hml : c.maxLocals = 1 := hml0
  have hown : s.vm.findClass "com/example/ballast/ballast/Placement" = some m.cls := findClass_of_methodNamed Bd.named
  have hnm := (name_of_methodNamed Bd.named Bd.method).1
  have X0 : Stand p l e ({ frames := 0, cells := 0, slots := 0, locals := 0 } : Room) s m #[(.ref a1)] below meth c s₁ [] 0 0 := Stand.of_body Bd
  have e0 : s₁.heap = h0 := by rw [← hh, Bd.state]; rfl
  have N0 := Fr.nil n0
  have pre0 : ∀ t, Steps p.tables e below (s₁.setTop (mkF m 0 #[.val (.ref a1)] [])) t → Steps p.tables e below (s₁.setTop (entryFrame m #[(.ref a1)] 1)) t := fun t k => castTop (ef_6 m a1) k
  obtain ⟨T3, X3, e3, st3⟩ := getF X0 hx hZ hown (host := "") (Or.inl (hw _ (List.mem_of_getElem? (i := 26) rfl))) Via.refl e0 F_workers_a1 (g := (mkF m 1 #[.val (.ref a1)] [(.ref a1)])) rfl rfl (hb hby d6_1)
  obtain ⟨fs, hr, hrun, hended, hW, hsame⟩ := X3.leave (v := some (.int w2)) (fun h => by rw [Bd.returns] at h; cases h)
  refine ⟨_, _, pre0 _ ?_, hrun, hended, _, _, rfl, ?_, ⟨_, rfl⟩, hW, hsame.mono (by decide) (by decide)⟩
  · show Steps p.tables e below (s₁.setTop (mkF m 0 #[.val (.ref a1)] [])) _
    refine XS.aloadN X0.here hx rfl (hb hby d6_0) rfl rfl ?_
    show Steps p.tables e below (s₁.setTop (mkF m 1 #[.val (.ref a1)] [(.ref a1)])) _
    refine st3 _ ?_
    show Steps p.tables e below (T3.setTop (mkF m 4 #[.val (.ref a1)] [(.int w2)])) _
    exact retI X3 hx Bd.returns (hb hby d6_4) hr
  · show Q6 Z a1 w2 h0 n0 _ T3.heap _
    rw [e3]
    exact ⟨rfl, N0, rfl⟩

theorem d7_0 : decode prog_25_method_7_code 0 = .ok (.aload_n 0, 1) := by decide +kernel
theorem d7_1 : decode prog_25_method_7_code 1 = .ok (.getfield 13, 3) := by decide +kernel
theorem d7_4 : decode prog_25_method_7_code 4 = .ok (.iload_n 1, 1) := by decide +kernel
theorem d7_5 : decode prog_25_method_7_code 5 = .ok (.iaload, 1) := by decide +kernel
theorem d7_6 : decode prog_25_method_7_code 6 = .ok (.ireturn, 1) := by decide +kernel
theorem pn_7 : plainName "com/example/ballast/ballast/Placement" = true := by first | (simp [plainName, overriddenIn]; done) | decide +kernel
theorem ef_7 (m : MethodId) (x0 : Addr) (x1 : Int32) : entryFrame m #[(.ref x0), (.int x1)] 2 = mkF m 0 #[.val (.ref x0), .val (.int x1)] [] := by first | (simp [entryFrame, mkF, argsToLocals, Value.category]; done) | rfl
def Q7 (Z : State) (a1 : Addr) (p2 : Int32) (w3 : Addr) (w5 : Int32) (cl_w3 : Cell) (h0 : Heap) (n0 : Nat) (v : Option Value) (h : Heap) (L : List Loc) : Prop := v = some (.int w5) ∧ Fr n0 L ∧ h = h0
set_option maxRecDepth 65536 in
set_option maxHeartbeats 40000000 in
theorem rm7 (l : Launch) (Z : State) (a0 : Array Value) (hw : ∀ d ∈ tables_1, d.before a0 Z = true) (ws : List Jvm.Cond) (a1 : Addr) (p2 : Int32) (w3 : Addr) (w5 : Int32) (cl_w3 : Cell) (h0 : Heap) (n0 : Nat) (Z0 : n0 ≤ h0.size) (F_workerOf_a1 : Fld Z h0 a1 "com/example/ballast/ballast/Placement" "workerOf" "[I" (.ref w3)) (Ar_w3 : Arr Z h0 w3 cl_w3 .int) (hin5 : ¬ (p2 < 0 ∨ cl_w3.slots.size ≤ (p2).toNatClampNeg)) (hat5 : cl_w3.slots[(p2).toNatClampNeg]? = some (.int w5)) :
    MetFree l (⟨"com/example/ballast/ballast/Placement", "workerOf", "(I)I"⟩ : MethodName) (head1 (Jvm.Cond.code (⟨"com/example/ballast/ballast/Placement", "workerOf", "(I)I"⟩ : MethodName) prog_25_method_7_code 2 (some .int) :: ws) ({ frames := 0, cells := 0, slots := 0, locals := 0 } : Room)) (fun a U => a = #[(.ref a1), (.int p2)] ∧ Z.Warmed39 U.vm ∧ U.heap = h0) (fun _ _ _ _ _ => True) (fun _ U o U' => ∃ v L, o = .returned v ∧ Q7 Z a1 p2 w3 w5 cl_w3 h0 n0 v U'.heap L ∧ FrameEnd U o U' L ({ frames := 0, cells := 0, slots := 0, locals := 0 } : Room).cells ({ frames := 0, cells := 0, slots := 0, locals := 0 } : Room).slots) := by
  refine MetFree.of_bodySF (plainFor_of_name pn_7) hisR ?_
  intro p e s m args below meth c s₁ Bd hml0 hP hK
  obtain ⟨rfl, hZ, hh⟩ := hP
  have hx := Bd.exec
  have hby := Bd.bytes
  have hml : c.maxLocals = 2 := hml0
  have hown : s.vm.findClass "com/example/ballast/ballast/Placement" = some m.cls := findClass_of_methodNamed Bd.named
  have hnm := (name_of_methodNamed Bd.named Bd.method).1
  have X0 : Stand p l e ({ frames := 0, cells := 0, slots := 0, locals := 0 } : Room) s m #[(.ref a1), (.int p2)] below meth c s₁ [] 0 0 := Stand.of_body Bd
  have e0 : s₁.heap = h0 := by rw [← hh, Bd.state]; rfl
  have N0 := Fr.nil n0
  have pre0 : ∀ t, Steps p.tables e below (s₁.setTop (mkF m 0 #[.val (.ref a1), .val (.int p2)] [])) t → Steps p.tables e below (s₁.setTop (entryFrame m #[(.ref a1), (.int p2)] 2)) t := fun t k => castTop (ef_7 m a1 p2) k
  obtain ⟨T4, X4, e4, st4⟩ := getF X0 hx hZ hown (host := "") (Or.inl (hw _ (List.mem_of_getElem? (i := 28) rfl))) Via.refl e0 F_workerOf_a1 (g := (mkF m 1 #[.val (.ref a1), .val (.int p2)] [(.ref a1)])) rfl rfl (hb hby d7_1)
  obtain ⟨fs, hr, hrun, hended, hW, hsame⟩ := X4.leave (v := some (.int w5)) (fun h => by rw [Bd.returns] at h; cases h)
  refine ⟨_, _, pre0 _ ?_, hrun, hended, _, _, rfl, ?_, ⟨_, rfl⟩, hW, hsame.mono (by decide) (by decide)⟩
  · show Steps p.tables e below (s₁.setTop (mkF m 0 #[.val (.ref a1), .val (.int p2)] [])) _
    refine XS.aloadN X0.here hx rfl (hb hby d7_0) rfl rfl ?_
    show Steps p.tables e below (s₁.setTop (mkF m 1 #[.val (.ref a1), .val (.int p2)] [(.ref a1)])) _
    refine st4 _ ?_
    show Steps p.tables e below (T4.setTop (mkF m 4 #[.val (.ref a1), .val (.int p2)] [(.ref w3)])) _
    refine XS.iloadN X4.here hx rfl (hb hby d7_4) rfl ?_
    show Steps p.tables e below (T4.setTop (mkF m 5 #[.val (.ref a1), .val (.int p2)] [(.int p2), (.ref w3)])) _
    refine X4.iaload hx (j := p2) (v := (.int w5)) (by rw [e4]; exact Ar_w3.1) (State.isArrayOf_alike hZ.alike Ar_w3.2.1) Ar_w3.2.2 hin5 hat5 (g := (mkF m 5 #[.val (.ref a1), .val (.int p2)] [(.int p2), (.ref w3)])) rfl rfl (hb hby d7_5) _ ?_
    show Steps p.tables e below (T4.setTop (mkF m 6 #[.val (.ref a1), .val (.int p2)] [(.int w5)])) _
    exact retI X4 hx Bd.returns (hb hby d7_6) hr
  · show Q7 Z a1 p2 w3 w5 cl_w3 h0 n0 _ T4.heap _
    rw [e4]
    exact ⟨rfl, N0, rfl⟩

def Q1 (Z : State) (p1 : Int32) (kk : ClassId) (z : Int32) (vs : List Value) (h0 : Heap) (n0 : Nat) (v : Option Value) (h : Heap) (L : List Loc) : Prop := ∃ b b' : Addr, v = some (.ref b) ∧ Fr n0 L ∧ Keep h0 h [] ∧ h0.size ≤ b ∧ h0.size ≤ b' ∧ Exa Z h b "com/example/ballast/ballast/Placement" ∧ Fld Z h b "com/example/ballast/ballast/Placement" "workers" "I" (.int p1) ∧ Fld Z h b "com/example/ballast/ballast/Placement" "workerOf" "[I" (.ref b') ∧ Arv Z h b' kk .int z vs (.int (0 : Int32))
theorem d1_0 : decode prog_25_method_3_code 0 = .ok (.iload_n 0, 1) := by decide +kernel
theorem d1_1 : decode prog_25_method_3_code 1 = .ok (.aload_n 1, 1) := by decide +kernel
theorem d1_2 : decode prog_25_method_3_code 2 = .ok (.arraylength, 1) := by decide +kernel
theorem d1_3 : decode prog_25_method_3_code 3 = .ok (.invokestatic 17, 3) := by decide +kernel
theorem d1_6 : decode prog_25_method_3_code 6 = .ok (.iconst 0, 1) := by decide +kernel
theorem d1_7 : decode prog_25_method_3_code 7 = .ok (.istore_n 2, 1) := by decide +kernel
theorem d1_8 : decode prog_25_method_3_code 8 = .ok (.iload_n 2, 1) := by decide +kernel
theorem d1_9 : decode prog_25_method_3_code 9 = .ok (.aload_n 1, 1) := by decide +kernel
theorem d1_10 : decode prog_25_method_3_code 10 = .ok (.arraylength, 1) := by decide +kernel
theorem d1_11 : decode prog_25_method_3_code 11 = .ok (.if_icmp .ge 66, 3) := by decide +kernel
theorem d1_14 : decode prog_25_method_3_code 14 = .ok (.aload_n 1, 1) := by decide +kernel
theorem d1_15 : decode prog_25_method_3_code 15 = .ok (.iload_n 2, 1) := by decide +kernel
theorem d1_16 : decode prog_25_method_3_code 16 = .ok (.iaload, 1) := by decide +kernel
theorem d1_17 : decode prog_25_method_3_code 17 = .ok (.istore_n 3, 1) := by decide +kernel
theorem d1_18 : decode prog_25_method_3_code 18 = .ok (.iload_n 3, 1) := by decide +kernel
theorem d1_19 : decode prog_25_method_3_code 19 = .ok (.ifCond .lt 8, 3) := by decide +kernel
theorem d1_22 : decode prog_25_method_3_code 22 = .ok (.iload_n 3, 1) := by decide +kernel
theorem d1_23 : decode prog_25_method_3_code 23 = .ok (.iload_n 0, 1) := by decide +kernel
theorem d1_24 : decode prog_25_method_3_code 24 = .ok (.if_icmp .lt 47, 3) := by decide +kernel
theorem d1_71 : decode prog_25_method_3_code 71 = .ok (.iinc 2 1, 3) := by decide +kernel
theorem d1_74 : decode prog_25_method_3_code 74 = .ok (.goto (-66), 3) := by decide +kernel
theorem d1_77 : decode prog_25_method_3_code 77 = .ok (.new 8, 3) := by decide +kernel
theorem d1_80 : decode prog_25_method_3_code 80 = .ok (.dup, 1) := by decide +kernel
theorem d1_81 : decode prog_25_method_3_code 81 = .ok (.iload_n 0, 1) := by decide +kernel
theorem d1_82 : decode prog_25_method_3_code 82 = .ok (.aload_n 1, 1) := by decide +kernel
theorem d1_83 : decode prog_25_method_3_code 83 = .ok (.invokevirtual 43, 3) := by decide +kernel
theorem d1_86 : decode prog_25_method_3_code 86 = .ok (.checkcast 44, 3) := by decide +kernel
theorem d1_89 : decode prog_25_method_3_code 89 = .ok (.invokespecial 21, 3) := by decide +kernel
theorem d1_92 : decode prog_25_method_3_code 92 = .ok (.areturn, 1) := by decide +kernel
theorem pn_1 : plainName "com/example/ballast/ballast/Placement" = true := by first | (simp [plainName, overriddenIn]; done) | decide +kernel
theorem pd_1_1 : parseMethodDescriptor "(II)V" = some ⟨[.int, .int], none⟩ := by decide +kernel
theorem pd_1_2 : parseMethodDescriptor "()Ljava/lang/Object;" = some ⟨[], some (.object "java/lang/Object")⟩ := by decide +kernel
theorem pd_1_3 : parseMethodDescriptor "(I[I)V" = some ⟨[.int, (.array .int)], none⟩ := by decide +kernel
theorem ef_1 (m : MethodId) (x0 : Int32) (x1 : Addr) : entryFrame m #[(.int x0), (.ref x1)] 5 = mkF m 0 #[.val (.int x0), .val (.ref x1), .unset, .unset, .unset] [] := by first | (simp [entryFrame, mkF, argsToLocals, Value.category]; done) | rfl
set_option maxRecDepth 65536 in
set_option maxHeartbeats 40000000 in
theorem rm1_1 (l : Launch) (Z : State) (a0 : Array Value) (hw : ∀ d ∈ tables_1, d.before a0 Z = true) (ws : List Jvm.Cond) (p1 : Int32) (a2 : Addr) (kk : ClassId) (w4 : Int32) (h0 : Heap) (n0 : Nat) (Z0 : n0 ≤ h0.size) (V_a2 : Arv Z h0 a2 kk .int (1 : Int32) [(.int w4)] (.int (0 : Int32))) (E_a2 : Exa Z h0 a2 "[I") (hp1 : ¬ (p1 < (1 : Int32))) (hp2 : ¬ ((1 : Int32) < p1)) (hl0 : ¬ (w4 < (0 : Int32))) (hh0 : w4 < p1) :
    MetFree l (⟨"com/example/ballast/ballast/Placement", "of", "(I[I)Lcom/example/ballast/ballast/Placement;"⟩ : MethodName) (head1 (Jvm.Cond.code (⟨"com/example/ballast/ballast/Placement", "of", "(I[I)Lcom/example/ballast/ballast/Placement;"⟩ : MethodName) prog_25_method_3_code 5 (some (.object "com/example/ballast/ballast/Placement")) :: ws) ({ frames := 2, cells := 2, slots := 3, locals := 27 } : Room)) (fun a U => a = #[(.int p1), (.ref a2)] ∧ Z.Warmed39 U.vm ∧ U.heap = h0) (fun _ _ _ _ _ => True) (fun _ U o U' => ∃ v L, o = .returned v ∧ Q1 Z p1 kk (1 : Int32) [(.int w4)] h0 n0 v U'.heap L ∧ FrameEnd U o U' L ({ frames := 2, cells := 2, slots := 3, locals := 27 } : Room).cells ({ frames := 2, cells := 2, slots := 3, locals := 27 } : Room).slots) := by
  refine MetFree.of_bodySF (plainFor_of_name pn_1) hisR ?_
  intro p e s m args below meth c s₁ Bd hml0 hP hK
  obtain ⟨rfl, hZ, hh⟩ := hP
  have hx := Bd.exec
  have hby := Bd.bytes
  have hml : c.maxLocals = 5 := hml0
  have hown : s.vm.findClass "com/example/ballast/ballast/Placement" = some m.cls := findClass_of_methodNamed Bd.named
  have hnm := (name_of_methodNamed Bd.named Bd.method).1
  have X0 : Stand p l e ({ frames := 2, cells := 2, slots := 3, locals := 27 } : Room) s m #[(.int p1), (.ref a2)] below meth c s₁ [] 0 0 := Stand.of_body Bd
  have e0 : s₁.heap = h0 := by rw [← hh, Bd.state]; rfl
  have N0 := Fr.nil n0
  have pre0 : ∀ t, Steps p.tables e below (s₁.setTop (mkF m 0 #[.val (.int p1), .val (.ref a2), .unset, .unset, .unset] [])) t → Steps p.tables e below (s₁.setTop (entryFrame m #[(.int p1), (.ref a2)] 5)) t := fun t k => castTop (ef_1 m p1 a2) k
  have V0 := V_a2
  obtain ⟨cl_a2, Ar_a2, q_a2, S_a2, N_a2, H_a2, G_a2⟩ := V_a2
  have hin16_0 : ¬ ((0 : Int32) < 0 ∨ cl_a2.slots.size ≤ ((0 : Int32)).toNatClampNeg) := inb_of S_a2 ⟨by decide, by decide⟩
  have hat16_0 : cl_a2.slots[((0 : Int32)).toNatClampNeg]? = some (.int w4) := H_a2.at hin16_0 rfl
  have hc11_0 : (0 : Int32) < (1 : Int32) := by decide
  have hc11_1 : ¬ (((0 : Int32) + (1 : Int32)) < (1 : Int32)) := by decide
  obtain ⟨_, _, ⟨T3, L3, k3, n3⟩, -, X3, ⟨Lc3, hQ3, l3, y3, z3⟩, st3⟩ := Jvm.LawKit.callS X0 hx (y := (⟨"com/example/ballast/ballast/Placement", "checkWorkers", "(II)V"⟩ : MethodName)) hown (mvT hZ (hw _ (List.mem_of_getElem? (i := 6) rfl))) (mvT hZ (hw _ (List.mem_of_getElem? (i := 7) rfl))) (mvT hZ (hw _ (List.mem_of_getElem? (i := 4) rfl))) (mvT hZ (hw _ (List.mem_of_getElem? (i := 8) rfl))) (by decide) (backOf (W := 0) (rm2 l Z a0 hw [] p1 (1 : Int32) h0 n0 Z0 hp1 hp2) hZ (hw _ (List.mem_of_getElem? (i := 8) rfl)) (hw _ (List.mem_of_getElem? (i := 4) rfl)) (by decide) (by decide)) (g := (mkF m 3 #[.val (.int p1), .val (.ref a2), .unset, .unset, .unset] [(.int (1 : Int32)), (.int p1)])) rfl (by rw [hml]; rfl) (argsL := [(.int p1), (.int (1 : Int32))]) (rest := []) (lenOf pd_1_1 rfl) rfl (by show 2 * 0 + _ ≤ _; exact Nat.le_of_eq rfl) (hb hby d1_3) (fun _ _ => ⟨rfl, e0, (by decide : 0 + 0 ≤ _), (by decide : 0 + 0 ≤ _)⟩)
  dsimp only [Pt.U, Pt.locs, Pt.cells, Pt.slots] at X3 l3 y3 z3 st3 hQ3
  subst l3 y3 z3
  obtain ⟨rfl, N3q, e3⟩ := hQ3
  have N3 := Fr.app N0 N3q
  obtain ⟨T5, h5, X5, e5, E5, A5, D5, -, st5⟩ := newO X3 hx hZ hown (hw _ (List.mem_of_getElem? (i := 9) rfl)) (hw _ (List.mem_of_getElem? (i := 10) rfl)) (hw _ (List.mem_of_getElem? (i := 4) rfl)) e3 (g := (mkF m 77 #[.val (.int p1), .val (.ref a2), .val (.int ((0 : Int32) + (1 : Int32))), .val (.int w4), .unset] [])) rfl (hb hby d1_77) (by decide) (by decide)
  obtain ⟨b5, g5⟩ : ∃ z, z = h0.size := ⟨_, rfl⟩
  rw [← g5] at A5 D5 st5
  have F_workers_b5 : Fld Z h5 b5 "com/example/ballast/ballast/Placement" "workers" "I" (.int (0 : Int32)) := D5 (Or.inr (hw _ (List.mem_of_getElem? (i := 27) rfl))) (ty := .int) (by decide)
  have F_workerOf_b5 : Fld Z h5 b5 "com/example/ballast/ballast/Placement" "workerOf" "[I" .null := D5 (Or.inr (hw _ (List.mem_of_getElem? (i := 29) rfl))) (ty := (.array .int)) (by decide)
  have E_b5 := A5
  have g_b5 : n0 ≤ b5 := Nat.le_trans Z0 (Nat.le_of_eq g5.symm)
  have sz_b5 : h0.size ≤ b5 := (Nat.le_trans (Keep.refl h0 []).1 (Nat.le_of_eq g5.symm))
  have K5 : Keep h0 h5 [] := (Keep.refl h0 []).ext E5
  obtain ⟨T6, h6, X6, e6, E6, V6, B6, st6⟩ := cloneH X5 hx hZ hown (hw _ (List.mem_of_getElem? (i := 11) rfl)) (hw _ (List.mem_of_getElem? (i := 12) rfl)) (hw _ (List.mem_of_getElem? (i := 16) rfl)) (hw _ (List.mem_of_getElem? (i := 14) rfl)) (hw _ (List.mem_of_getElem? (i := 15) rfl)) (hw _ (List.mem_of_getElem? (i := 17) rfl)) e5 (V0.ext E5).arh (E_a2.ext E5) (g := (mkF m 83 #[.val (.int p1), .val (.ref a2), .val (.int ((0 : Int32) + (1 : Int32))), .val (.int w4), .unset] [(.ref a2), (.int p1), (.ref b5), (.ref b5)])) rfl (by rw [hml]; rfl) rfl (hb hby d1_83) (by decide) (W := 3) (cap := 1) (by show 2 * 0 + _ ≤ _; exact Nat.le_of_eq rfl) (by decide) (by decide) (by decide) (by decide)
  obtain ⟨bc, gc⟩ : ∃ z, z = h5.size := ⟨_, rfl⟩
  rw [← gc] at V6 B6 st6
  have Vc : Arv Z h6 bc kk .int (1 : Int32) [(.int w4)] (.int (0 : Int32)) := V6
  obtain ⟨T7, X7, e7, st7⟩ := castY X6 hx hZ hown (hw _ (List.mem_of_getElem? (i := 18) rfl)) e6 (Ins.self B6) (g := (mkF m 86 #[.val (.int p1), .val (.ref a2), .val (.int ((0 : Int32) + (1 : Int32))), .val (.int w4), .unset] [(.ref bc), (.int p1), (.ref b5), (.ref b5)])) rfl rfl (hb hby d1_86)
  obtain ⟨_, _, ⟨T8, L8, k8, n8⟩, -, X8, ⟨Lc8, hQ8, l8, y8, z8⟩, st8⟩ := X7.specialBack hx (y := (⟨"com/example/ballast/ballast/Placement", "<init>", "(I[I)V"⟩ : MethodName)) rfl hown (mvT hZ (hw _ (List.mem_of_getElem? (i := 20) rfl))) (mvT hZ (hw _ (List.mem_of_getElem? (i := 21) rfl))) (mvT hZ (hw _ (List.mem_of_getElem? (i := 22) rfl))) (by decide) (backOf (W := 1) (rm3 l Z a0 hw [] b5 p1 bc _ _ h6 n0 (Nat.le_trans Z0 (Nat.le_trans K5.1 E6.1)) (E_b5.ext E6) (F_workers_b5.ext E6) g_b5 (F_workerOf_b5.ext E6)) hZ (hw _ (List.mem_of_getElem? (i := 22) rfl)) (hw _ (List.mem_of_getElem? (i := 4) rfl)) (by decide) (by decide)) (g := (mkF m 89 #[.val (.int p1), .val (.ref a2), .val (.int ((0 : Int32) + (1 : Int32))), .val (.int w4), .unset] [(.ref bc), (.int p1), (.ref b5), (.ref b5)])) rfl (by rw [hml]; rfl) (Steps.refl _) (a := b5) (argsL := [(.int p1), (.ref bc)]) (rest := [(.ref b5)]) (lenOf pd_1_3 rfl) rfl (by show 2 * 0 + _ ≤ _; exact Nat.le_of_eq rfl) (hb hby d1_89) (fun _ _ => ⟨rfl, e7, (by decide : 2 + 0 ≤ _), (by decide : 3 + 0 ≤ _)⟩)
  dsimp only [Pt.U, Pt.locs, Pt.cells, Pt.slots] at X8 l8 y8 z8 st8 hQ8
  subst l8 y8 z8
  obtain ⟨rfl, N8q, K8, E8', F1, F2⟩ := hQ8
  have N8 := Fr.app N3 N8q
  obtain ⟨fs, hr, hrun, hended, hW, hsame⟩ := X8.leave (v := some (.ref b5)) (fun h => by rw [Bd.returns] at h; cases h)
  refine ⟨_, _, pre0 _ ?_, hrun, hended, _, _, rfl, ?_, ⟨_, rfl⟩, hW, hsame.mono (by decide) (by decide)⟩
  · show Steps p.tables e below (s₁.setTop (mkF m 0 #[.val (.int p1), .val (.ref a2), .unset, .unset, .unset] [])) _
    refine XS.iloadN X0.here hx rfl (hb hby d1_0) rfl ?_
    show Steps p.tables e below (s₁.setTop (mkF m 1 #[.val (.int p1), .val (.ref a2), .unset, .unset, .unset] [(.int p1)])) _
    refine XS.aloadN X0.here hx rfl (hb hby d1_1) rfl rfl ?_
    show Steps p.tables e below (s₁.setTop (mkF m 2 #[.val (.int p1), .val (.ref a2), .unset, .unset, .unset] [(.ref a2), (.int p1)])) _
    refine X0.arraylength hx (by rw [e0]; exact Ar_a2.1) (State.isArrayOf_alike hZ.alike Ar_a2.2.1) (g := (mkF m 2 #[.val (.int p1), .val (.ref a2), .unset, .unset, .unset] [(.ref a2), (.int p1)])) rfl rfl (hb hby d1_2) _ ?_
    rw [len_of S_a2 N_a2]
    show Steps p.tables e below (s₁.setTop (mkF m 3 #[.val (.int p1), .val (.ref a2), .unset, .unset, .unset] [(.int (1 : Int32)), (.int p1)])) _
    refine st3 _ ?_
    show Steps p.tables e below (T3.setTop (mkF m 6 #[.val (.int p1), .val (.ref a2), .unset, .unset, .unset] [])) _
    refine XS.iconst X3.here hx rfl (hb hby d1_6) ?_
    show Steps p.tables e below (T3.setTop (mkF m 7 #[.val (.int p1), .val (.ref a2), .unset, .unset, .unset] [(.int (0 : Int32))])) _
    refine XS.istoreN X3.here hx rfl (hb hby d1_7) rfl (l' := #[.val (.int p1), .val (.ref a2), .val (.int (0 : Int32)), .unset, .unset]) rfl ?_
    show Steps p.tables e below (T3.setTop (mkF m 8 #[.val (.int p1), .val (.ref a2), .val (.int (0 : Int32)), .unset, .unset] [])) _
    refine XS.iloadN X3.here hx rfl (hb hby d1_8) rfl ?_
    show Steps p.tables e below (T3.setTop (mkF m 9 #[.val (.int p1), .val (.ref a2), .val (.int (0 : Int32)), .unset, .unset] [(.int (0 : Int32))])) _
    refine XS.aloadN X3.here hx rfl (hb hby d1_9) rfl rfl ?_
    show Steps p.tables e below (T3.setTop (mkF m 10 #[.val (.int p1), .val (.ref a2), .val (.int (0 : Int32)), .unset, .unset] [(.ref a2), (.int (0 : Int32))])) _
    refine X3.arraylength hx (by rw [e3]; exact Ar_a2.1) (State.isArrayOf_alike hZ.alike Ar_a2.2.1) (g := (mkF m 10 #[.val (.int p1), .val (.ref a2), .val (.int (0 : Int32)), .unset, .unset] [(.ref a2), (.int (0 : Int32))])) rfl rfl (hb hby d1_10) _ ?_
    rw [len_of S_a2 N_a2]
    show Steps p.tables e below (T3.setTop (mkF m 11 #[.val (.int p1), .val (.ref a2), .val (.int (0 : Int32)), .unset, .unset] [(.int (1 : Int32)), (.int (0 : Int32))])) _
    refine XS.icmpNo X3.here hx rfl (hb hby d1_11) rfl (tlt hc11_0).2.1 ?_
    show Steps p.tables e below (T3.setTop (mkF m 14 #[.val (.int p1), .val (.ref a2), .val (.int (0 : Int32)), .unset, .unset] [])) _
    refine XS.aloadN X3.here hx rfl (hb hby d1_14) rfl rfl ?_
    show Steps p.tables e below (T3.setTop (mkF m 15 #[.val (.int p1), .val (.ref a2), .val (.int (0 : Int32)), .unset, .unset] [(.ref a2)])) _
    refine XS.iloadN X3.here hx rfl (hb hby d1_15) rfl ?_
    show Steps p.tables e below (T3.setTop (mkF m 16 #[.val (.int p1), .val (.ref a2), .val (.int (0 : Int32)), .unset, .unset] [(.int (0 : Int32)), (.ref a2)])) _
    refine X3.iaload hx (j := (0 : Int32)) (v := (.int w4)) (by rw [e3]; exact Ar_a2.1) (State.isArrayOf_alike hZ.alike Ar_a2.2.1) Ar_a2.2.2 hin16_0 hat16_0 (g := (mkF m 16 #[.val (.int p1), .val (.ref a2), .val (.int (0 : Int32)), .unset, .unset] [(.int (0 : Int32)), (.ref a2)])) rfl rfl (hb hby d1_16) _ ?_
    show Steps p.tables e below (T3.setTop (mkF m 17 #[.val (.int p1), .val (.ref a2), .val (.int (0 : Int32)), .unset, .unset] [(.int w4)])) _
    refine XS.istoreN X3.here hx rfl (hb hby d1_17) rfl (l' := #[.val (.int p1), .val (.ref a2), .val (.int (0 : Int32)), .val (.int w4), .unset]) rfl ?_
    show Steps p.tables e below (T3.setTop (mkF m 18 #[.val (.int p1), .val (.ref a2), .val (.int (0 : Int32)), .val (.int w4), .unset] [])) _
    refine XS.iloadN X3.here hx rfl (hb hby d1_18) rfl ?_
    show Steps p.tables e below (T3.setTop (mkF m 19 #[.val (.int p1), .val (.ref a2), .val (.int (0 : Int32)), .val (.int w4), .unset] [(.int w4)])) _
    refine XS.ifNo X3.here hx rfl (hb hby d1_19) rfl ((if0 _ _).trans (flt hl0).1) ?_
    show Steps p.tables e below (T3.setTop (mkF m 22 #[.val (.int p1), .val (.ref a2), .val (.int (0 : Int32)), .val (.int w4), .unset] [])) _
    refine XS.iloadN X3.here hx rfl (hb hby d1_22) rfl ?_
    show Steps p.tables e below (T3.setTop (mkF m 23 #[.val (.int p1), .val (.ref a2), .val (.int (0 : Int32)), .val (.int w4), .unset] [(.int w4)])) _
    refine XS.iloadN X3.here hx rfl (hb hby d1_23) rfl ?_
    show Steps p.tables e below (T3.setTop (mkF m 24 #[.val (.int p1), .val (.ref a2), .val (.int (0 : Int32)), .val (.int w4), .unset] [(.int p1), (.int w4)])) _
    refine XS.icmpYes X3.here hx rfl (pc0 := 24) (pc' := 71) rfl (hb hby d1_24) rfl (tlt hh0).1 (by decide) (by decide) ?_
    show Steps p.tables e below (T3.setTop (mkF m 71 #[.val (.int p1), .val (.ref a2), .val (.int (0 : Int32)), .val (.int w4), .unset] [])) _
    refine XS.iinc X3.here hx rfl (hb hby d1_71) rfl (l' := #[.val (.int p1), .val (.ref a2), .val (.int ((0 : Int32) + (1 : Int32))), .val (.int w4), .unset]) rfl ?_
    show Steps p.tables e below (T3.setTop (mkF m 74 #[.val (.int p1), .val (.ref a2), .val (.int ((0 : Int32) + (1 : Int32))), .val (.int w4), .unset] [])) _
    refine XS.goto X3.here hx rfl (pc0 := 74) (pc' := 8) rfl (hb hby d1_74) (by decide) (by decide) ?_
    show Steps p.tables e below (T3.setTop (mkF m 8 #[.val (.int p1), .val (.ref a2), .val (.int ((0 : Int32) + (1 : Int32))), .val (.int w4), .unset] [])) _
    refine XS.iloadN X3.here hx rfl (hb hby d1_8) rfl ?_
    show Steps p.tables e below (T3.setTop (mkF m 9 #[.val (.int p1), .val (.ref a2), .val (.int ((0 : Int32) + (1 : Int32))), .val (.int w4), .unset] [(.int ((0 : Int32) + (1 : Int32)))])) _
    refine XS.aloadN X3.here hx rfl (hb hby d1_9) rfl rfl ?_
    show Steps p.tables e below (T3.setTop (mkF m 10 #[.val (.int p1), .val (.ref a2), .val (.int ((0 : Int32) + (1 : Int32))), .val (.int w4), .unset] [(.ref a2), (.int ((0 : Int32) + (1 : Int32)))])) _
    refine X3.arraylength hx (by rw [e3]; exact Ar_a2.1) (State.isArrayOf_alike hZ.alike Ar_a2.2.1) (g := (mkF m 10 #[.val (.int p1), .val (.ref a2), .val (.int ((0 : Int32) + (1 : Int32))), .val (.int w4), .unset] [(.ref a2), (.int ((0 : Int32) + (1 : Int32)))])) rfl rfl (hb hby d1_10) _ ?_
    rw [len_of S_a2 N_a2]
    show Steps p.tables e below (T3.setTop (mkF m 11 #[.val (.int p1), .val (.ref a2), .val (.int ((0 : Int32) + (1 : Int32))), .val (.int w4), .unset] [(.int (1 : Int32)), (.int ((0 : Int32) + (1 : Int32)))])) _
    refine XS.icmpYes X3.here hx rfl (pc0 := 11) (pc' := 77) rfl (hb hby d1_11) rfl (flt hc11_1).2.1 (by decide) (by decide) ?_
    show Steps p.tables e below (T3.setTop (mkF m 77 #[.val (.int p1), .val (.ref a2), .val (.int ((0 : Int32) + (1 : Int32))), .val (.int w4), .unset] [])) _
    refine st5 _ ?_
    show Steps p.tables e below (T5.setTop (mkF m 80 #[.val (.int p1), .val (.ref a2), .val (.int ((0 : Int32) + (1 : Int32))), .val (.int w4), .unset] [(.ref b5)])) _
    refine XS.dup X5.here hx rfl (hb hby d1_80) rfl rfl ?_
    show Steps p.tables e below (T5.setTop (mkF m 81 #[.val (.int p1), .val (.ref a2), .val (.int ((0 : Int32) + (1 : Int32))), .val (.int w4), .unset] [(.ref b5), (.ref b5)])) _
    refine XS.iloadN X5.here hx rfl (hb hby d1_81) rfl ?_
    show Steps p.tables e below (T5.setTop (mkF m 82 #[.val (.int p1), .val (.ref a2), .val (.int ((0 : Int32) + (1 : Int32))), .val (.int w4), .unset] [(.int p1), (.ref b5), (.ref b5)])) _
    refine XS.aloadN X5.here hx rfl (hb hby d1_82) rfl rfl ?_
    show Steps p.tables e below (T5.setTop (mkF m 83 #[.val (.int p1), .val (.ref a2), .val (.int ((0 : Int32) + (1 : Int32))), .val (.int w4), .unset] [(.ref a2), (.int p1), (.ref b5), (.ref b5)])) _
    refine st6 _ ?_
    show Steps p.tables e below (T6.setTop (mkF m 86 #[.val (.int p1), .val (.ref a2), .val (.int ((0 : Int32) + (1 : Int32))), .val (.int w4), .unset] [(.ref bc), (.int p1), (.ref b5), (.ref b5)])) _
    refine st7 _ ?_
    show Steps p.tables e below (T7.setTop (mkF m 89 #[.val (.int p1), .val (.ref a2), .val (.int ((0 : Int32) + (1 : Int32))), .val (.int w4), .unset] [(.ref bc), (.int p1), (.ref b5), (.ref b5)])) _
    refine st8.trans ?_
    show Steps p.tables e below (T8.setTop (mkF m 92 #[.val (.int p1), .val (.ref a2), .val (.int ((0 : Int32) + (1 : Int32))), .val (.int w4), .unset] [(.ref b5)])) _
    jvm_step X8.here [X8.here.top, hx, (hb hby d1_92), X8.method', Bd.returns, Value.isRef, FieldType.isReference]
    first | (intro acts; rw [hr _ acts rfl rfl rfl]) | rw [hr _ _ rfl rfl rfl]
    exact Steps.refl _
  · show Q1 Z p1 kk (1 : Int32) [(.int w4)] h0 n0 _ T8.heap _
    exact ⟨b5, bc, rfl, N8, (K5.ext E6).trans K8 (allS (Or.inr sz_b5) all0), sz_b5, Nat.le_trans K5.1 (Nat.le_of_eq gc.symm), E8', F1, F2, Vc.keep K8 (ninS (Nat.ne_of_gt (by rw [gc]; exact E_b5.lt)) nin0)⟩

set_option maxRecDepth 65536 in
set_option maxHeartbeats 40000000 in
theorem rm1_2 (l : Launch) (Z : State) (a0 : Array Value) (hw : ∀ d ∈ tables_1, d.before a0 Z = true) (ws : List Jvm.Cond) (p1 : Int32) (a2 : Addr) (kk : ClassId) (w4 w5 : Int32) (h0 : Heap) (n0 : Nat) (Z0 : n0 ≤ h0.size) (V_a2 : Arv Z h0 a2 kk .int (2 : Int32) [(.int w4), (.int w5)] (.int (0 : Int32))) (E_a2 : Exa Z h0 a2 "[I") (hp1 : ¬ (p1 < (1 : Int32))) (hp2 : ¬ ((2 : Int32) < p1)) (hl0 : ¬ (w4 < (0 : Int32))) (hh0 : w4 < p1) (hl1 : ¬ (w5 < (0 : Int32))) (hh1 : w5 < p1) :
    MetFree l (⟨"com/example/ballast/ballast/Placement", "of", "(I[I)Lcom/example/ballast/ballast/Placement;"⟩ : MethodName) (head1 (Jvm.Cond.code (⟨"com/example/ballast/ballast/Placement", "of", "(I[I)Lcom/example/ballast/ballast/Placement;"⟩ : MethodName) prog_25_method_3_code 5 (some (.object "com/example/ballast/ballast/Placement")) :: ws) ({ frames := 2, cells := 2, slots := 4, locals := 27 } : Room)) (fun a U => a = #[(.int p1), (.ref a2)] ∧ Z.Warmed39 U.vm ∧ U.heap = h0) (fun _ _ _ _ _ => True) (fun _ U o U' => ∃ v L, o = .returned v ∧ Q1 Z p1 kk (2 : Int32) [(.int w4), (.int w5)] h0 n0 v U'.heap L ∧ FrameEnd U o U' L ({ frames := 2, cells := 2, slots := 4, locals := 27 } : Room).cells ({ frames := 2, cells := 2, slots := 4, locals := 27 } : Room).slots) := by
  refine MetFree.of_bodySF (plainFor_of_name pn_1) hisR ?_
  intro p e s m args below meth c s₁ Bd hml0 hP hK
  obtain ⟨rfl, hZ, hh⟩ := hP
  have hx := Bd.exec
  have hby := Bd.bytes
  have hml : c.maxLocals = 5 := hml0
  have hown : s.vm.findClass "com/example/ballast/ballast/Placement" = some m.cls := findClass_of_methodNamed Bd.named
  have hnm := (name_of_methodNamed Bd.named Bd.method).1
  have X0 : Stand p l e ({ frames := 2, cells := 2, slots := 4, locals := 27 } : Room) s m #[(.int p1), (.ref a2)] below meth c s₁ [] 0 0 := Stand.of_body Bd
  have e0 : s₁.heap = h0 := by rw [← hh, Bd.state]; rfl
  have N0 := Fr.nil n0
  have pre0 : ∀ t, Steps p.tables e below (s₁.setTop (mkF m 0 #[.val (.int p1), .val (.ref a2), .unset, .unset, .unset] [])) t → Steps p.tables e below (s₁.setTop (entryFrame m #[(.int p1), (.ref a2)] 5)) t := fun t k => castTop (ef_1 m p1 a2) k
  have V0 := V_a2
  obtain ⟨cl_a2, Ar_a2, q_a2, S_a2, N_a2, H_a2, G_a2⟩ := V_a2
  have hin16_0 : ¬ ((0 : Int32) < 0 ∨ cl_a2.slots.size ≤ ((0 : Int32)).toNatClampNeg) := inb_of S_a2 ⟨by decide, by decide⟩
  have hat16_0 : cl_a2.slots[((0 : Int32)).toNatClampNeg]? = some (.int w4) := H_a2.at hin16_0 rfl
  have hin16_1 : ¬ (((0 : Int32) + (1 : Int32)) < 0 ∨ cl_a2.slots.size ≤ (((0 : Int32) + (1 : Int32))).toNatClampNeg) := inb_of S_a2 ⟨by decide, by decide⟩
  have hat16_1 : cl_a2.slots[(((0 : Int32) + (1 : Int32))).toNatClampNeg]? = some (.int w5) := H_a2.at hin16_1 rfl
  have hc11_0 : (0 : Int32) < (2 : Int32) := by decide
  have hc11_1 : ((0 : Int32) + (1 : Int32)) < (2 : Int32) := by decide
  have hc11_2 : ¬ ((((0 : Int32) + (1 : Int32)) + (1 : Int32)) < (2 : Int32)) := by decide
  obtain ⟨_, _, ⟨T3, L3, k3, n3⟩, -, X3, ⟨Lc3, hQ3, l3, y3, z3⟩, st3⟩ := Jvm.LawKit.callS X0 hx (y := (⟨"com/example/ballast/ballast/Placement", "checkWorkers", "(II)V"⟩ : MethodName)) hown (mvT hZ (hw _ (List.mem_of_getElem? (i := 6) rfl))) (mvT hZ (hw _ (List.mem_of_getElem? (i := 7) rfl))) (mvT hZ (hw _ (List.mem_of_getElem? (i := 4) rfl))) (mvT hZ (hw _ (List.mem_of_getElem? (i := 8) rfl))) (by decide) (backOf (W := 0) (rm2 l Z a0 hw [] p1 (2 : Int32) h0 n0 Z0 hp1 hp2) hZ (hw _ (List.mem_of_getElem? (i := 8) rfl)) (hw _ (List.mem_of_getElem? (i := 4) rfl)) (by decide) (by decide)) (g := (mkF m 3 #[.val (.int p1), .val (.ref a2), .unset, .unset, .unset] [(.int (2 : Int32)), (.int p1)])) rfl (by rw [hml]; rfl) (argsL := [(.int p1), (.int (2 : Int32))]) (rest := []) (lenOf pd_1_1 rfl) rfl (by show 2 * 0 + _ ≤ _; exact Nat.le_of_eq rfl) (hb hby d1_3) (fun _ _ => ⟨rfl, e0, (by decide : 0 + 0 ≤ _), (by decide : 0 + 0 ≤ _)⟩)
  dsimp only [Pt.U, Pt.locs, Pt.cells, Pt.slots] at X3 l3 y3 z3 st3 hQ3
  subst l3 y3 z3
  obtain ⟨rfl, N3q, e3⟩ := hQ3
  have N3 := Fr.app N0 N3q
  obtain ⟨T6, h6, X6, e6, E6, A6, D6, -, st6⟩ := newO X3 hx hZ hown (hw _ (List.mem_of_getElem? (i := 9) rfl)) (hw _ (List.mem_of_getElem? (i := 10) rfl)) (hw _ (List.mem_of_getElem? (i := 4) rfl)) e3 (g := (mkF m 77 #[.val (.int p1), .val (.ref a2), .val (.int (((0 : Int32) + (1 : Int32)) + (1 : Int32))), .val (.int w5), .unset] [])) rfl (hb hby d1_77) (by decide) (by decide)
  obtain ⟨b6, g6⟩ : ∃ z, z = h0.size := ⟨_, rfl⟩
  rw [← g6] at A6 D6 st6
  have F_workers_b6 : Fld Z h6 b6 "com/example/ballast/ballast/Placement" "workers" "I" (.int (0 : Int32)) := D6 (Or.inr (hw _ (List.mem_of_getElem? (i := 27) rfl))) (ty := .int) (by decide)
  have F_workerOf_b6 : Fld Z h6 b6 "com/example/ballast/ballast/Placement" "workerOf" "[I" .null := D6 (Or.inr (hw _ (List.mem_of_getElem? (i := 29) rfl))) (ty := (.array .int)) (by decide)
  have E_b6 := A6
  have g_b6 : n0 ≤ b6 := Nat.le_trans Z0 (Nat.le_of_eq g6.symm)
  have sz_b6 : h0.size ≤ b6 := (Nat.le_trans (Keep.refl h0 []).1 (Nat.le_of_eq g6.symm))
  have K6 : Keep h0 h6 [] := (Keep.refl h0 []).ext E6
  obtain ⟨T7, h7, X7, e7, E7, V7, B7, st7⟩ := cloneH X6 hx hZ hown (hw _ (List.mem_of_getElem? (i := 11) rfl)) (hw _ (List.mem_of_getElem? (i := 12) rfl)) (hw _ (List.mem_of_getElem? (i := 16) rfl)) (hw _ (List.mem_of_getElem? (i := 14) rfl)) (hw _ (List.mem_of_getElem? (i := 15) rfl)) (hw _ (List.mem_of_getElem? (i := 17) rfl)) e6 (V0.ext E6).arh (E_a2.ext E6) (g := (mkF m 83 #[.val (.int p1), .val (.ref a2), .val (.int (((0 : Int32) + (1 : Int32)) + (1 : Int32))), .val (.int w5), .unset] [(.ref a2), (.int p1), (.ref b6), (.ref b6)])) rfl (by rw [hml]; rfl) rfl (hb hby d1_83) (by decide) (W := 3) (cap := 2) (by show 2 * 0 + _ ≤ _; exact Nat.le_of_eq rfl) (by decide) (by decide) (by decide) (by decide)
  obtain ⟨bc, gc⟩ : ∃ z, z = h6.size := ⟨_, rfl⟩
  rw [← gc] at V7 B7 st7
  have Vc : Arv Z h7 bc kk .int (2 : Int32) [(.int w4), (.int w5)] (.int (0 : Int32)) := V7
  obtain ⟨T8, X8, e8, st8⟩ := castY X7 hx hZ hown (hw _ (List.mem_of_getElem? (i := 18) rfl)) e7 (Ins.self B7) (g := (mkF m 86 #[.val (.int p1), .val (.ref a2), .val (.int (((0 : Int32) + (1 : Int32)) + (1 : Int32))), .val (.int w5), .unset] [(.ref bc), (.int p1), (.ref b6), (.ref b6)])) rfl rfl (hb hby d1_86)
  obtain ⟨_, _, ⟨T9, L9, k9, n9⟩, -, X9, ⟨Lc9, hQ9, l9, y9, z9⟩, st9⟩ := X8.specialBack hx (y := (⟨"com/example/ballast/ballast/Placement", "<init>", "(I[I)V"⟩ : MethodName)) rfl hown (mvT hZ (hw _ (List.mem_of_getElem? (i := 20) rfl))) (mvT hZ (hw _ (List.mem_of_getElem? (i := 21) rfl))) (mvT hZ (hw _ (List.mem_of_getElem? (i := 22) rfl))) (by decide) (backOf (W := 1) (rm3 l Z a0 hw [] b6 p1 bc _ _ h7 n0 (Nat.le_trans Z0 (Nat.le_trans K6.1 E7.1)) (E_b6.ext E7) (F_workers_b6.ext E7) g_b6 (F_workerOf_b6.ext E7)) hZ (hw _ (List.mem_of_getElem? (i := 22) rfl)) (hw _ (List.mem_of_getElem? (i := 4) rfl)) (by decide) (by decide)) (g := (mkF m 89 #[.val (.int p1), .val (.ref a2), .val (.int (((0 : Int32) + (1 : Int32)) + (1 : Int32))), .val (.int w5), .unset] [(.ref bc), (.int p1), (.ref b6), (.ref b6)])) rfl (by rw [hml]; rfl) (Steps.refl _) (a := b6) (argsL := [(.int p1), (.ref bc)]) (rest := [(.ref b6)]) (lenOf pd_1_3 rfl) rfl (by show 2 * 0 + _ ≤ _; exact Nat.le_of_eq rfl) (hb hby d1_89) (fun _ _ => ⟨rfl, e8, (by decide : 2 + 0 ≤ _), (by decide : 4 + 0 ≤ _)⟩)
  dsimp only [Pt.U, Pt.locs, Pt.cells, Pt.slots] at X9 l9 y9 z9 st9 hQ9
  subst l9 y9 z9
  obtain ⟨rfl, N9q, K9, E9', F1, F2⟩ := hQ9
  have N9 := Fr.app N3 N9q
  obtain ⟨fs, hr, hrun, hended, hW, hsame⟩ := X9.leave (v := some (.ref b6)) (fun h => by rw [Bd.returns] at h; cases h)
  refine ⟨_, _, pre0 _ ?_, hrun, hended, _, _, rfl, ?_, ⟨_, rfl⟩, hW, hsame.mono (by decide) (by decide)⟩
  · show Steps p.tables e below (s₁.setTop (mkF m 0 #[.val (.int p1), .val (.ref a2), .unset, .unset, .unset] [])) _
    refine XS.iloadN X0.here hx rfl (hb hby d1_0) rfl ?_
    show Steps p.tables e below (s₁.setTop (mkF m 1 #[.val (.int p1), .val (.ref a2), .unset, .unset, .unset] [(.int p1)])) _
    refine XS.aloadN X0.here hx rfl (hb hby d1_1) rfl rfl ?_
    show Steps p.tables e below (s₁.setTop (mkF m 2 #[.val (.int p1), .val (.ref a2), .unset, .unset, .unset] [(.ref a2), (.int p1)])) _
    refine X0.arraylength hx (by rw [e0]; exact Ar_a2.1) (State.isArrayOf_alike hZ.alike Ar_a2.2.1) (g := (mkF m 2 #[.val (.int p1), .val (.ref a2), .unset, .unset, .unset] [(.ref a2), (.int p1)])) rfl rfl (hb hby d1_2) _ ?_
    rw [len_of S_a2 N_a2]
    show Steps p.tables e below (s₁.setTop (mkF m 3 #[.val (.int p1), .val (.ref a2), .unset, .unset, .unset] [(.int (2 : Int32)), (.int p1)])) _
    refine st3 _ ?_
    show Steps p.tables e below (T3.setTop (mkF m 6 #[.val (.int p1), .val (.ref a2), .unset, .unset, .unset] [])) _
    refine XS.iconst X3.here hx rfl (hb hby d1_6) ?_
    show Steps p.tables e below (T3.setTop (mkF m 7 #[.val (.int p1), .val (.ref a2), .unset, .unset, .unset] [(.int (0 : Int32))])) _
    refine XS.istoreN X3.here hx rfl (hb hby d1_7) rfl (l' := #[.val (.int p1), .val (.ref a2), .val (.int (0 : Int32)), .unset, .unset]) rfl ?_
    show Steps p.tables e below (T3.setTop (mkF m 8 #[.val (.int p1), .val (.ref a2), .val (.int (0 : Int32)), .unset, .unset] [])) _
    refine XS.iloadN X3.here hx rfl (hb hby d1_8) rfl ?_
    show Steps p.tables e below (T3.setTop (mkF m 9 #[.val (.int p1), .val (.ref a2), .val (.int (0 : Int32)), .unset, .unset] [(.int (0 : Int32))])) _
    refine XS.aloadN X3.here hx rfl (hb hby d1_9) rfl rfl ?_
    show Steps p.tables e below (T3.setTop (mkF m 10 #[.val (.int p1), .val (.ref a2), .val (.int (0 : Int32)), .unset, .unset] [(.ref a2), (.int (0 : Int32))])) _
    refine X3.arraylength hx (by rw [e3]; exact Ar_a2.1) (State.isArrayOf_alike hZ.alike Ar_a2.2.1) (g := (mkF m 10 #[.val (.int p1), .val (.ref a2), .val (.int (0 : Int32)), .unset, .unset] [(.ref a2), (.int (0 : Int32))])) rfl rfl (hb hby d1_10) _ ?_
    rw [len_of S_a2 N_a2]
    show Steps p.tables e below (T3.setTop (mkF m 11 #[.val (.int p1), .val (.ref a2), .val (.int (0 : Int32)), .unset, .unset] [(.int (2 : Int32)), (.int (0 : Int32))])) _
    refine XS.icmpNo X3.here hx rfl (hb hby d1_11) rfl (tlt hc11_0).2.1 ?_
    show Steps p.tables e below (T3.setTop (mkF m 14 #[.val (.int p1), .val (.ref a2), .val (.int (0 : Int32)), .unset, .unset] [])) _
    refine XS.aloadN X3.here hx rfl (hb hby d1_14) rfl rfl ?_
    show Steps p.tables e below (T3.setTop (mkF m 15 #[.val (.int p1), .val (.ref a2), .val (.int (0 : Int32)), .unset, .unset] [(.ref a2)])) _
    refine XS.iloadN X3.here hx rfl (hb hby d1_15) rfl ?_
    show Steps p.tables e below (T3.setTop (mkF m 16 #[.val (.int p1), .val (.ref a2), .val (.int (0 : Int32)), .unset, .unset] [(.int (0 : Int32)), (.ref a2)])) _
    refine X3.iaload hx (j := (0 : Int32)) (v := (.int w4)) (by rw [e3]; exact Ar_a2.1) (State.isArrayOf_alike hZ.alike Ar_a2.2.1) Ar_a2.2.2 hin16_0 hat16_0 (g := (mkF m 16 #[.val (.int p1), .val (.ref a2), .val (.int (0 : Int32)), .unset, .unset] [(.int (0 : Int32)), (.ref a2)])) rfl rfl (hb hby d1_16) _ ?_
    show Steps p.tables e below (T3.setTop (mkF m 17 #[.val (.int p1), .val (.ref a2), .val (.int (0 : Int32)), .unset, .unset] [(.int w4)])) _
    refine XS.istoreN X3.here hx rfl (hb hby d1_17) rfl (l' := #[.val (.int p1), .val (.ref a2), .val (.int (0 : Int32)), .val (.int w4), .unset]) rfl ?_
    show Steps p.tables e below (T3.setTop (mkF m 18 #[.val (.int p1), .val (.ref a2), .val (.int (0 : Int32)), .val (.int w4), .unset] [])) _
    refine XS.iloadN X3.here hx rfl (hb hby d1_18) rfl ?_
    show Steps p.tables e below (T3.setTop (mkF m 19 #[.val (.int p1), .val (.ref a2), .val (.int (0 : Int32)), .val (.int w4), .unset] [(.int w4)])) _
    refine XS.ifNo X3.here hx rfl (hb hby d1_19) rfl ((if0 _ _).trans (flt hl0).1) ?_
    show Steps p.tables e below (T3.setTop (mkF m 22 #[.val (.int p1), .val (.ref a2), .val (.int (0 : Int32)), .val (.int w4), .unset] [])) _
    refine XS.iloadN X3.here hx rfl (hb hby d1_22) rfl ?_
    show Steps p.tables e below (T3.setTop (mkF m 23 #[.val (.int p1), .val (.ref a2), .val (.int (0 : Int32)), .val (.int w4), .unset] [(.int w4)])) _
    refine XS.iloadN X3.here hx rfl (hb hby d1_23) rfl ?_
    show Steps p.tables e below (T3.setTop (mkF m 24 #[.val (.int p1), .val (.ref a2), .val (.int (0 : Int32)), .val (.int w4), .unset] [(.int p1), (.int w4)])) _
    refine XS.icmpYes X3.here hx rfl (pc0 := 24) (pc' := 71) rfl (hb hby d1_24) rfl (tlt hh0).1 (by decide) (by decide) ?_
    show Steps p.tables e below (T3.setTop (mkF m 71 #[.val (.int p1), .val (.ref a2), .val (.int (0 : Int32)), .val (.int w4), .unset] [])) _
    refine XS.iinc X3.here hx rfl (hb hby d1_71) rfl (l' := #[.val (.int p1), .val (.ref a2), .val (.int ((0 : Int32) + (1 : Int32))), .val (.int w4), .unset]) rfl ?_
    show Steps p.tables e below (T3.setTop (mkF m 74 #[.val (.int p1), .val (.ref a2), .val (.int ((0 : Int32) + (1 : Int32))), .val (.int w4), .unset] [])) _
    refine XS.goto X3.here hx rfl (pc0 := 74) (pc' := 8) rfl (hb hby d1_74) (by decide) (by decide) ?_
    show Steps p.tables e below (T3.setTop (mkF m 8 #[.val (.int p1), .val (.ref a2), .val (.int ((0 : Int32) + (1 : Int32))), .val (.int w4), .unset] [])) _
    refine XS.iloadN X3.here hx rfl (hb hby d1_8) rfl ?_
    show Steps p.tables e below (T3.setTop (mkF m 9 #[.val (.int p1), .val (.ref a2), .val (.int ((0 : Int32) + (1 : Int32))), .val (.int w4), .unset] [(.int ((0 : Int32) + (1 : Int32)))])) _
    refine XS.aloadN X3.here hx rfl (hb hby d1_9) rfl rfl ?_
    show Steps p.tables e below (T3.setTop (mkF m 10 #[.val (.int p1), .val (.ref a2), .val (.int ((0 : Int32) + (1 : Int32))), .val (.int w4), .unset] [(.ref a2), (.int ((0 : Int32) + (1 : Int32)))])) _
    refine X3.arraylength hx (by rw [e3]; exact Ar_a2.1) (State.isArrayOf_alike hZ.alike Ar_a2.2.1) (g := (mkF m 10 #[.val (.int p1), .val (.ref a2), .val (.int ((0 : Int32) + (1 : Int32))), .val (.int w4), .unset] [(.ref a2), (.int ((0 : Int32) + (1 : Int32)))])) rfl rfl (hb hby d1_10) _ ?_
    rw [len_of S_a2 N_a2]
    show Steps p.tables e below (T3.setTop (mkF m 11 #[.val (.int p1), .val (.ref a2), .val (.int ((0 : Int32) + (1 : Int32))), .val (.int w4), .unset] [(.int (2 : Int32)), (.int ((0 : Int32) + (1 : Int32)))])) _
    refine XS.icmpNo X3.here hx rfl (hb hby d1_11) rfl (tlt hc11_1).2.1 ?_
    show Steps p.tables e below (T3.setTop (mkF m 14 #[.val (.int p1), .val (.ref a2), .val (.int ((0 : Int32) + (1 : Int32))), .val (.int w4), .unset] [])) _
    refine XS.aloadN X3.here hx rfl (hb hby d1_14) rfl rfl ?_
    show Steps p.tables e below (T3.setTop (mkF m 15 #[.val (.int p1), .val (.ref a2), .val (.int ((0 : Int32) + (1 : Int32))), .val (.int w4), .unset] [(.ref a2)])) _
    refine XS.iloadN X3.here hx rfl (hb hby d1_15) rfl ?_
    show Steps p.tables e below (T3.setTop (mkF m 16 #[.val (.int p1), .val (.ref a2), .val (.int ((0 : Int32) + (1 : Int32))), .val (.int w4), .unset] [(.int ((0 : Int32) + (1 : Int32))), (.ref a2)])) _
    refine X3.iaload hx (j := ((0 : Int32) + (1 : Int32))) (v := (.int w5)) (by rw [e3]; exact Ar_a2.1) (State.isArrayOf_alike hZ.alike Ar_a2.2.1) Ar_a2.2.2 hin16_1 hat16_1 (g := (mkF m 16 #[.val (.int p1), .val (.ref a2), .val (.int ((0 : Int32) + (1 : Int32))), .val (.int w4), .unset] [(.int ((0 : Int32) + (1 : Int32))), (.ref a2)])) rfl rfl (hb hby d1_16) _ ?_
    show Steps p.tables e below (T3.setTop (mkF m 17 #[.val (.int p1), .val (.ref a2), .val (.int ((0 : Int32) + (1 : Int32))), .val (.int w4), .unset] [(.int w5)])) _
    refine XS.istoreN X3.here hx rfl (hb hby d1_17) rfl (l' := #[.val (.int p1), .val (.ref a2), .val (.int ((0 : Int32) + (1 : Int32))), .val (.int w5), .unset]) rfl ?_
    show Steps p.tables e below (T3.setTop (mkF m 18 #[.val (.int p1), .val (.ref a2), .val (.int ((0 : Int32) + (1 : Int32))), .val (.int w5), .unset] [])) _
    refine XS.iloadN X3.here hx rfl (hb hby d1_18) rfl ?_
    show Steps p.tables e below (T3.setTop (mkF m 19 #[.val (.int p1), .val (.ref a2), .val (.int ((0 : Int32) + (1 : Int32))), .val (.int w5), .unset] [(.int w5)])) _
    refine XS.ifNo X3.here hx rfl (hb hby d1_19) rfl ((if0 _ _).trans (flt hl1).1) ?_
    show Steps p.tables e below (T3.setTop (mkF m 22 #[.val (.int p1), .val (.ref a2), .val (.int ((0 : Int32) + (1 : Int32))), .val (.int w5), .unset] [])) _
    refine XS.iloadN X3.here hx rfl (hb hby d1_22) rfl ?_
    show Steps p.tables e below (T3.setTop (mkF m 23 #[.val (.int p1), .val (.ref a2), .val (.int ((0 : Int32) + (1 : Int32))), .val (.int w5), .unset] [(.int w5)])) _
    refine XS.iloadN X3.here hx rfl (hb hby d1_23) rfl ?_
    show Steps p.tables e below (T3.setTop (mkF m 24 #[.val (.int p1), .val (.ref a2), .val (.int ((0 : Int32) + (1 : Int32))), .val (.int w5), .unset] [(.int p1), (.int w5)])) _
    refine XS.icmpYes X3.here hx rfl (pc0 := 24) (pc' := 71) rfl (hb hby d1_24) rfl (tlt hh1).1 (by decide) (by decide) ?_
    show Steps p.tables e below (T3.setTop (mkF m 71 #[.val (.int p1), .val (.ref a2), .val (.int ((0 : Int32) + (1 : Int32))), .val (.int w5), .unset] [])) _
    refine XS.iinc X3.here hx rfl (hb hby d1_71) rfl (l' := #[.val (.int p1), .val (.ref a2), .val (.int (((0 : Int32) + (1 : Int32)) + (1 : Int32))), .val (.int w5), .unset]) rfl ?_
    show Steps p.tables e below (T3.setTop (mkF m 74 #[.val (.int p1), .val (.ref a2), .val (.int (((0 : Int32) + (1 : Int32)) + (1 : Int32))), .val (.int w5), .unset] [])) _
    refine XS.goto X3.here hx rfl (pc0 := 74) (pc' := 8) rfl (hb hby d1_74) (by decide) (by decide) ?_
    show Steps p.tables e below (T3.setTop (mkF m 8 #[.val (.int p1), .val (.ref a2), .val (.int (((0 : Int32) + (1 : Int32)) + (1 : Int32))), .val (.int w5), .unset] [])) _
    refine XS.iloadN X3.here hx rfl (hb hby d1_8) rfl ?_
    show Steps p.tables e below (T3.setTop (mkF m 9 #[.val (.int p1), .val (.ref a2), .val (.int (((0 : Int32) + (1 : Int32)) + (1 : Int32))), .val (.int w5), .unset] [(.int (((0 : Int32) + (1 : Int32)) + (1 : Int32)))])) _
    refine XS.aloadN X3.here hx rfl (hb hby d1_9) rfl rfl ?_
    show Steps p.tables e below (T3.setTop (mkF m 10 #[.val (.int p1), .val (.ref a2), .val (.int (((0 : Int32) + (1 : Int32)) + (1 : Int32))), .val (.int w5), .unset] [(.ref a2), (.int (((0 : Int32) + (1 : Int32)) + (1 : Int32)))])) _
    refine X3.arraylength hx (by rw [e3]; exact Ar_a2.1) (State.isArrayOf_alike hZ.alike Ar_a2.2.1) (g := (mkF m 10 #[.val (.int p1), .val (.ref a2), .val (.int (((0 : Int32) + (1 : Int32)) + (1 : Int32))), .val (.int w5), .unset] [(.ref a2), (.int (((0 : Int32) + (1 : Int32)) + (1 : Int32)))])) rfl rfl (hb hby d1_10) _ ?_
    rw [len_of S_a2 N_a2]
    show Steps p.tables e below (T3.setTop (mkF m 11 #[.val (.int p1), .val (.ref a2), .val (.int (((0 : Int32) + (1 : Int32)) + (1 : Int32))), .val (.int w5), .unset] [(.int (2 : Int32)), (.int (((0 : Int32) + (1 : Int32)) + (1 : Int32)))])) _
    refine XS.icmpYes X3.here hx rfl (pc0 := 11) (pc' := 77) rfl (hb hby d1_11) rfl (flt hc11_2).2.1 (by decide) (by decide) ?_
    show Steps p.tables e below (T3.setTop (mkF m 77 #[.val (.int p1), .val (.ref a2), .val (.int (((0 : Int32) + (1 : Int32)) + (1 : Int32))), .val (.int w5), .unset] [])) _
    refine st6 _ ?_
    show Steps p.tables e below (T6.setTop (mkF m 80 #[.val (.int p1), .val (.ref a2), .val (.int (((0 : Int32) + (1 : Int32)) + (1 : Int32))), .val (.int w5), .unset] [(.ref b6)])) _
    refine XS.dup X6.here hx rfl (hb hby d1_80) rfl rfl ?_
    show Steps p.tables e below (T6.setTop (mkF m 81 #[.val (.int p1), .val (.ref a2), .val (.int (((0 : Int32) + (1 : Int32)) + (1 : Int32))), .val (.int w5), .unset] [(.ref b6), (.ref b6)])) _
    refine XS.iloadN X6.here hx rfl (hb hby d1_81) rfl ?_
    show Steps p.tables e below (T6.setTop (mkF m 82 #[.val (.int p1), .val (.ref a2), .val (.int (((0 : Int32) + (1 : Int32)) + (1 : Int32))), .val (.int w5), .unset] [(.int p1), (.ref b6), (.ref b6)])) _
    refine XS.aloadN X6.here hx rfl (hb hby d1_82) rfl rfl ?_
    show Steps p.tables e below (T6.setTop (mkF m 83 #[.val (.int p1), .val (.ref a2), .val (.int (((0 : Int32) + (1 : Int32)) + (1 : Int32))), .val (.int w5), .unset] [(.ref a2), (.int p1), (.ref b6), (.ref b6)])) _
    refine st7 _ ?_
    show Steps p.tables e below (T7.setTop (mkF m 86 #[.val (.int p1), .val (.ref a2), .val (.int (((0 : Int32) + (1 : Int32)) + (1 : Int32))), .val (.int w5), .unset] [(.ref bc), (.int p1), (.ref b6), (.ref b6)])) _
    refine st8 _ ?_
    show Steps p.tables e below (T8.setTop (mkF m 89 #[.val (.int p1), .val (.ref a2), .val (.int (((0 : Int32) + (1 : Int32)) + (1 : Int32))), .val (.int w5), .unset] [(.ref bc), (.int p1), (.ref b6), (.ref b6)])) _
    refine st9.trans ?_
    show Steps p.tables e below (T9.setTop (mkF m 92 #[.val (.int p1), .val (.ref a2), .val (.int (((0 : Int32) + (1 : Int32)) + (1 : Int32))), .val (.int w5), .unset] [(.ref b6)])) _
    jvm_step X9.here [X9.here.top, hx, (hb hby d1_92), X9.method', Bd.returns, Value.isRef, FieldType.isReference]
    first | (intro acts; rw [hr _ acts rfl rfl rfl]) | rw [hr _ _ rfl rfl rfl]
    exact Steps.refl _
  · show Q1 Z p1 kk (2 : Int32) [(.int w4), (.int w5)] h0 n0 _ T9.heap _
    exact ⟨b6, bc, rfl, N9, (K6.ext E7).trans K9 (allS (Or.inr sz_b6) all0), sz_b6, Nat.le_trans K6.1 (Nat.le_of_eq gc.symm), E9', F1, F2, Vc.keep K9 (ninS (Nat.ne_of_gt (by rw [gc]; exact E_b6.lt)) nin0)⟩

set_option maxRecDepth 65536 in
set_option maxHeartbeats 40000000 in
theorem rm1_3 (l : Launch) (Z : State) (a0 : Array Value) (hw : ∀ d ∈ tables_1, d.before a0 Z = true) (ws : List Jvm.Cond) (p1 : Int32) (a2 : Addr) (kk : ClassId) (w4 w5 w6 : Int32) (h0 : Heap) (n0 : Nat) (Z0 : n0 ≤ h0.size) (V_a2 : Arv Z h0 a2 kk .int (3 : Int32) [(.int w4), (.int w5), (.int w6)] (.int (0 : Int32))) (E_a2 : Exa Z h0 a2 "[I") (hp1 : ¬ (p1 < (1 : Int32))) (hp2 : ¬ ((3 : Int32) < p1)) (hl0 : ¬ (w4 < (0 : Int32))) (hh0 : w4 < p1) (hl1 : ¬ (w5 < (0 : Int32))) (hh1 : w5 < p1) (hl2 : ¬ (w6 < (0 : Int32))) (hh2 : w6 < p1) :
    MetFree l (⟨"com/example/ballast/ballast/Placement", "of", "(I[I)Lcom/example/ballast/ballast/Placement;"⟩ : MethodName) (head1 (Jvm.Cond.code (⟨"com/example/ballast/ballast/Placement", "of", "(I[I)Lcom/example/ballast/ballast/Placement;"⟩ : MethodName) prog_25_method_3_code 5 (some (.object "com/example/ballast/ballast/Placement")) :: ws) ({ frames := 2, cells := 2, slots := 5, locals := 27 } : Room)) (fun a U => a = #[(.int p1), (.ref a2)] ∧ Z.Warmed39 U.vm ∧ U.heap = h0) (fun _ _ _ _ _ => True) (fun _ U o U' => ∃ v L, o = .returned v ∧ Q1 Z p1 kk (3 : Int32) [(.int w4), (.int w5), (.int w6)] h0 n0 v U'.heap L ∧ FrameEnd U o U' L ({ frames := 2, cells := 2, slots := 5, locals := 27 } : Room).cells ({ frames := 2, cells := 2, slots := 5, locals := 27 } : Room).slots) := by
  refine MetFree.of_bodySF (plainFor_of_name pn_1) hisR ?_
  intro p e s m args below meth c s₁ Bd hml0 hP hK
  obtain ⟨rfl, hZ, hh⟩ := hP
  have hx := Bd.exec
  have hby := Bd.bytes
  have hml : c.maxLocals = 5 := hml0
  have hown : s.vm.findClass "com/example/ballast/ballast/Placement" = some m.cls := findClass_of_methodNamed Bd.named
  have hnm := (name_of_methodNamed Bd.named Bd.method).1
  have X0 : Stand p l e ({ frames := 2, cells := 2, slots := 5, locals := 27 } : Room) s m #[(.int p1), (.ref a2)] below meth c s₁ [] 0 0 := Stand.of_body Bd
  have e0 : s₁.heap = h0 := by rw [← hh, Bd.state]; rfl
  have N0 := Fr.nil n0
  have pre0 : ∀ t, Steps p.tables e below (s₁.setTop (mkF m 0 #[.val (.int p1), .val (.ref a2), .unset, .unset, .unset] [])) t → Steps p.tables e below (s₁.setTop (entryFrame m #[(.int p1), (.ref a2)] 5)) t := fun t k => castTop (ef_1 m p1 a2) k
  have V0 := V_a2
  obtain ⟨cl_a2, Ar_a2, q_a2, S_a2, N_a2, H_a2, G_a2⟩ := V_a2
  have hin16_0 : ¬ ((0 : Int32) < 0 ∨ cl_a2.slots.size ≤ ((0 : Int32)).toNatClampNeg) := inb_of S_a2 ⟨by decide, by decide⟩
  have hat16_0 : cl_a2.slots[((0 : Int32)).toNatClampNeg]? = some (.int w4) := H_a2.at hin16_0 rfl
  have hin16_1 : ¬ (((0 : Int32) + (1 : Int32)) < 0 ∨ cl_a2.slots.size ≤ (((0 : Int32) + (1 : Int32))).toNatClampNeg) := inb_of S_a2 ⟨by decide, by decide⟩
  have hat16_1 : cl_a2.slots[(((0 : Int32) + (1 : Int32))).toNatClampNeg]? = some (.int w5) := H_a2.at hin16_1 rfl
  have hin16_2 : ¬ ((((0 : Int32) + (1 : Int32)) + (1 : Int32)) < 0 ∨ cl_a2.slots.size ≤ ((((0 : Int32) + (1 : Int32)) + (1 : Int32))).toNatClampNeg) := inb_of S_a2 ⟨by decide, by decide⟩
  have hat16_2 : cl_a2.slots[((((0 : Int32) + (1 : Int32)) + (1 : Int32))).toNatClampNeg]? = some (.int w6) := H_a2.at hin16_2 rfl
  have hc11_0 : (0 : Int32) < (3 : Int32) := by decide
  have hc11_1 : ((0 : Int32) + (1 : Int32)) < (3 : Int32) := by decide
  have hc11_2 : (((0 : Int32) + (1 : Int32)) + (1 : Int32)) < (3 : Int32) := by decide
  have hc11_3 : ¬ (((((0 : Int32) + (1 : Int32)) + (1 : Int32)) + (1 : Int32)) < (3 : Int32)) := by decide
  obtain ⟨_, _, ⟨T3, L3, k3, n3⟩, -, X3, ⟨Lc3, hQ3, l3, y3, z3⟩, st3⟩ := Jvm.LawKit.callS X0 hx (y := (⟨"com/example/ballast/ballast/Placement", "checkWorkers", "(II)V"⟩ : MethodName)) hown (mvT hZ (hw _ (List.mem_of_getElem? (i := 6) rfl))) (mvT hZ (hw _ (List.mem_of_getElem? (i := 7) rfl))) (mvT hZ (hw _ (List.mem_of_getElem? (i := 4) rfl))) (mvT hZ (hw _ (List.mem_of_getElem? (i := 8) rfl))) (by decide) (backOf (W := 0) (rm2 l Z a0 hw [] p1 (3 : Int32) h0 n0 Z0 hp1 hp2) hZ (hw _ (List.mem_of_getElem? (i := 8) rfl)) (hw _ (List.mem_of_getElem? (i := 4) rfl)) (by decide) (by decide)) (g := (mkF m 3 #[.val (.int p1), .val (.ref a2), .unset, .unset, .unset] [(.int (3 : Int32)), (.int p1)])) rfl (by rw [hml]; rfl) (argsL := [(.int p1), (.int (3 : Int32))]) (rest := []) (lenOf pd_1_1 rfl) rfl (by show 2 * 0 + _ ≤ _; exact Nat.le_of_eq rfl) (hb hby d1_3) (fun _ _ => ⟨rfl, e0, (by decide : 0 + 0 ≤ _), (by decide : 0 + 0 ≤ _)⟩)
  dsimp only [Pt.U, Pt.locs, Pt.cells, Pt.slots] at X3 l3 y3 z3 st3 hQ3
  subst l3 y3 z3
  obtain ⟨rfl, N3q, e3⟩ := hQ3
  have N3 := Fr.app N0 N3q
  obtain ⟨T7, h7, X7, e7, E7, A7, D7, -, st7⟩ := newO X3 hx hZ hown (hw _ (List.mem_of_getElem? (i := 9) rfl)) (hw _ (List.mem_of_getElem? (i := 10) rfl)) (hw _ (List.mem_of_getElem? (i := 4) rfl)) e3 (g := (mkF m 77 #[.val (.int p1), .val (.ref a2), .val (.int ((((0 : Int32) + (1 : Int32)) + (1 : Int32)) + (1 : Int32))), .val (.int w6), .unset] [])) rfl (hb hby d1_77) (by decide) (by decide)
  obtain ⟨b7, g7⟩ : ∃ z, z = h0.size := ⟨_, rfl⟩
  rw [← g7] at A7 D7 st7
  have F_workers_b7 : Fld Z h7 b7 "com/example/ballast/ballast/Placement" "workers" "I" (.int (0 : Int32)) := D7 (Or.inr (hw _ (List.mem_of_getElem? (i := 27) rfl))) (ty := .int) (by decide)
  have F_workerOf_b7 : Fld Z h7 b7 "com/example/ballast/ballast/Placement" "workerOf" "[I" .null := D7 (Or.inr (hw _ (List.mem_of_getElem? (i := 29) rfl))) (ty := (.array .int)) (by decide)
  have E_b7 := A7
  have g_b7 : n0 ≤ b7 := Nat.le_trans Z0 (Nat.le_of_eq g7.symm)
  have sz_b7 : h0.size ≤ b7 := (Nat.le_trans (Keep.refl h0 []).1 (Nat.le_of_eq g7.symm))
  have K7 : Keep h0 h7 [] := (Keep.refl h0 []).ext E7
  obtain ⟨T8, h8, X8, e8, E8, V8, B8, st8⟩ := cloneH X7 hx hZ hown (hw _ (List.mem_of_getElem? (i := 11) rfl)) (hw _ (List.mem_of_getElem? (i := 12) rfl)) (hw _ (List.mem_of_getElem? (i := 16) rfl)) (hw _ (List.mem_of_getElem? (i := 14) rfl)) (hw _ (List.mem_of_getElem? (i := 15) rfl)) (hw _ (List.mem_of_getElem? (i := 17) rfl)) e7 (V0.ext E7).arh (E_a2.ext E7) (g := (mkF m 83 #[.val (.int p1), .val (.ref a2), .val (.int ((((0 : Int32) + (1 : Int32)) + (1 : Int32)) + (1 : Int32))), .val (.int w6), .unset] [(.ref a2), (.int p1), (.ref b7), (.ref b7)])) rfl (by rw [hml]; rfl) rfl (hb hby d1_83) (by decide) (W := 3) (cap := 3) (by show 2 * 0 + _ ≤ _; exact Nat.le_of_eq rfl) (by decide) (by decide) (by decide) (by decide)
  obtain ⟨bc, gc⟩ : ∃ z, z = h7.size := ⟨_, rfl⟩
  rw [← gc] at V8 B8 st8
  have Vc : Arv Z h8 bc kk .int (3 : Int32) [(.int w4), (.int w5), (.int w6)] (.int (0 : Int32)) := V8
  obtain ⟨T9, X9, e9, st9⟩ := castY X8 hx hZ hown (hw _ (List.mem_of_getElem? (i := 18) rfl)) e8 (Ins.self B8) (g := (mkF m 86 #[.val (.int p1), .val (.ref a2), .val (.int ((((0 : Int32) + (1 : Int32)) + (1 : Int32)) + (1 : Int32))), .val (.int w6), .unset] [(.ref bc), (.int p1), (.ref b7), (.ref b7)])) rfl rfl (hb hby d1_86)
  obtain ⟨_, _, ⟨T10, L10, k10, n10⟩, -, X10, ⟨Lc10, hQ10, l10, y10, z10⟩, st10⟩ := X9.specialBack hx (y := (⟨"com/example/ballast/ballast/Placement", "<init>", "(I[I)V"⟩ : MethodName)) rfl hown (mvT hZ (hw _ (List.mem_of_getElem? (i := 20) rfl))) (mvT hZ (hw _ (List.mem_of_getElem? (i := 21) rfl))) (mvT hZ (hw _ (List.mem_of_getElem? (i := 22) rfl))) (by decide) (backOf (W := 1) (rm3 l Z a0 hw [] b7 p1 bc _ _ h8 n0 (Nat.le_trans Z0 (Nat.le_trans K7.1 E8.1)) (E_b7.ext E8) (F_workers_b7.ext E8) g_b7 (F_workerOf_b7.ext E8)) hZ (hw _ (List.mem_of_getElem? (i := 22) rfl)) (hw _ (List.mem_of_getElem? (i := 4) rfl)) (by decide) (by decide)) (g := (mkF m 89 #[.val (.int p1), .val (.ref a2), .val (.int ((((0 : Int32) + (1 : Int32)) + (1 : Int32)) + (1 : Int32))), .val (.int w6), .unset] [(.ref bc), (.int p1), (.ref b7), (.ref b7)])) rfl (by rw [hml]; rfl) (Steps.refl _) (a := b7) (argsL := [(.int p1), (.ref bc)]) (rest := [(.ref b7)]) (lenOf pd_1_3 rfl) rfl (by show 2 * 0 + _ ≤ _; exact Nat.le_of_eq rfl) (hb hby d1_89) (fun _ _ => ⟨rfl, e9, (by decide : 2 + 0 ≤ _), (by decide : 5 + 0 ≤ _)⟩)
  dsimp only [Pt.U, Pt.locs, Pt.cells, Pt.slots] at X10 l10 y10 z10 st10 hQ10
  subst l10 y10 z10
  obtain ⟨rfl, N10q, K10, E10', F1, F2⟩ := hQ10
  have N10 := Fr.app N3 N10q
  obtain ⟨fs, hr, hrun, hended, hW, hsame⟩ := X10.leave (v := some (.ref b7)) (fun h => by rw [Bd.returns] at h; cases h)
  refine ⟨_, _, pre0 _ ?_, hrun, hended, _, _, rfl, ?_, ⟨_, rfl⟩, hW, hsame.mono (by decide) (by decide)⟩
  · show Steps p.tables e below (s₁.setTop (mkF m 0 #[.val (.int p1), .val (.ref a2), .unset, .unset, .unset] [])) _
    refine XS.iloadN X0.here hx rfl (hb hby d1_0) rfl ?_
    show Steps p.tables e below (s₁.setTop (mkF m 1 #[.val (.int p1), .val (.ref a2), .unset, .unset, .unset] [(.int p1)])) _
    refine XS.aloadN X0.here hx rfl (hb hby d1_1) rfl rfl ?_
    show Steps p.tables e below (s₁.setTop (mkF m 2 #[.val (.int p1), .val (.ref a2), .unset, .unset, .unset] [(.ref a2), (.int p1)])) _
    refine X0.arraylength hx (by rw [e0]; exact Ar_a2.1) (State.isArrayOf_alike hZ.alike Ar_a2.2.1) (g := (mkF m 2 #[.val (.int p1), .val (.ref a2), .unset, .unset, .unset] [(.ref a2), (.int p1)])) rfl rfl (hb hby d1_2) _ ?_
    rw [len_of S_a2 N_a2]
    show Steps p.tables e below (s₁.setTop (mkF m 3 #[.val (.int p1), .val (.ref a2), .unset, .unset, .unset] [(.int (3 : Int32)), (.int p1)])) _
    refine st3 _ ?_
    show Steps p.tables e below (T3.setTop (mkF m 6 #[.val (.int p1), .val (.ref a2), .unset, .unset, .unset] [])) _
    refine XS.iconst X3.here hx rfl (hb hby d1_6) ?_
    show Steps p.tables e below (T3.setTop (mkF m 7 #[.val (.int p1), .val (.ref a2), .unset, .unset, .unset] [(.int (0 : Int32))])) _
    refine XS.istoreN X3.here hx rfl (hb hby d1_7) rfl (l' := #[.val (.int p1), .val (.ref a2), .val (.int (0 : Int32)), .unset, .unset]) rfl ?_
    show Steps p.tables e below (T3.setTop (mkF m 8 #[.val (.int p1), .val (.ref a2), .val (.int (0 : Int32)), .unset, .unset] [])) _
    refine XS.iloadN X3.here hx rfl (hb hby d1_8) rfl ?_
    show Steps p.tables e below (T3.setTop (mkF m 9 #[.val (.int p1), .val (.ref a2), .val (.int (0 : Int32)), .unset, .unset] [(.int (0 : Int32))])) _
    refine XS.aloadN X3.here hx rfl (hb hby d1_9) rfl rfl ?_
    show Steps p.tables e below (T3.setTop (mkF m 10 #[.val (.int p1), .val (.ref a2), .val (.int (0 : Int32)), .unset, .unset] [(.ref a2), (.int (0 : Int32))])) _
    refine X3.arraylength hx (by rw [e3]; exact Ar_a2.1) (State.isArrayOf_alike hZ.alike Ar_a2.2.1) (g := (mkF m 10 #[.val (.int p1), .val (.ref a2), .val (.int (0 : Int32)), .unset, .unset] [(.ref a2), (.int (0 : Int32))])) rfl rfl (hb hby d1_10) _ ?_
    rw [len_of S_a2 N_a2]
    show Steps p.tables e below (T3.setTop (mkF m 11 #[.val (.int p1), .val (.ref a2), .val (.int (0 : Int32)), .unset, .unset] [(.int (3 : Int32)), (.int (0 : Int32))])) _
    refine XS.icmpNo X3.here hx rfl (hb hby d1_11) rfl (tlt hc11_0).2.1 ?_
    show Steps p.tables e below (T3.setTop (mkF m 14 #[.val (.int p1), .val (.ref a2), .val (.int (0 : Int32)), .unset, .unset] [])) _
    refine XS.aloadN X3.here hx rfl (hb hby d1_14) rfl rfl ?_
    show Steps p.tables e below (T3.setTop (mkF m 15 #[.val (.int p1), .val (.ref a2), .val (.int (0 : Int32)), .unset, .unset] [(.ref a2)])) _
    refine XS.iloadN X3.here hx rfl (hb hby d1_15) rfl ?_
    show Steps p.tables e below (T3.setTop (mkF m 16 #[.val (.int p1), .val (.ref a2), .val (.int (0 : Int32)), .unset, .unset] [(.int (0 : Int32)), (.ref a2)])) _
    refine X3.iaload hx (j := (0 : Int32)) (v := (.int w4)) (by rw [e3]; exact Ar_a2.1) (State.isArrayOf_alike hZ.alike Ar_a2.2.1) Ar_a2.2.2 hin16_0 hat16_0 (g := (mkF m 16 #[.val (.int p1), .val (.ref a2), .val (.int (0 : Int32)), .unset, .unset] [(.int (0 : Int32)), (.ref a2)])) rfl rfl (hb hby d1_16) _ ?_
    show Steps p.tables e below (T3.setTop (mkF m 17 #[.val (.int p1), .val (.ref a2), .val (.int (0 : Int32)), .unset, .unset] [(.int w4)])) _
    refine XS.istoreN X3.here hx rfl (hb hby d1_17) rfl (l' := #[.val (.int p1), .val (.ref a2), .val (.int (0 : Int32)), .val (.int w4), .unset]) rfl ?_
    show Steps p.tables e below (T3.setTop (mkF m 18 #[.val (.int p1), .val (.ref a2), .val (.int (0 : Int32)), .val (.int w4), .unset] [])) _
    refine XS.iloadN X3.here hx rfl (hb hby d1_18) rfl ?_
    show Steps p.tables e below (T3.setTop (mkF m 19 #[.val (.int p1), .val (.ref a2), .val (.int (0 : Int32)), .val (.int w4), .unset] [(.int w4)])) _
    refine XS.ifNo X3.here hx rfl (hb hby d1_19) rfl ((if0 _ _).trans (flt hl0).1) ?_
    show Steps p.tables e below (T3.setTop (mkF m 22 #[.val (.int p1), .val (.ref a2), .val (.int (0 : Int32)), .val (.int w4), .unset] [])) _
    refine XS.iloadN X3.here hx rfl (hb hby d1_22) rfl ?_
    show Steps p.tables e below (T3.setTop (mkF m 23 #[.val (.int p1), .val (.ref a2), .val (.int (0 : Int32)), .val (.int w4), .unset] [(.int w4)])) _
    refine XS.iloadN X3.here hx rfl (hb hby d1_23) rfl ?_
    show Steps p.tables e below (T3.setTop (mkF m 24 #[.val (.int p1), .val (.ref a2), .val (.int (0 : Int32)), .val (.int w4), .unset] [(.int p1), (.int w4)])) _
    refine XS.icmpYes X3.here hx rfl (pc0 := 24) (pc' := 71) rfl (hb hby d1_24) rfl (tlt hh0).1 (by decide) (by decide) ?_
    show Steps p.tables e below (T3.setTop (mkF m 71 #[.val (.int p1), .val (.ref a2), .val (.int (0 : Int32)), .val (.int w4), .unset] [])) _
    refine XS.iinc X3.here hx rfl (hb hby d1_71) rfl (l' := #[.val (.int p1), .val (.ref a2), .val (.int ((0 : Int32) + (1 : Int32))), .val (.int w4), .unset]) rfl ?_
    show Steps p.tables e below (T3.setTop (mkF m 74 #[.val (.int p1), .val (.ref a2), .val (.int ((0 : Int32) + (1 : Int32))), .val (.int w4), .unset] [])) _
    refine XS.goto X3.here hx rfl (pc0 := 74) (pc' := 8) rfl (hb hby d1_74) (by decide) (by decide) ?_
    show Steps p.tables e below (T3.setTop (mkF m 8 #[.val (.int p1), .val (.ref a2), .val (.int ((0 : Int32) + (1 : Int32))), .val (.int w4), .unset] [])) _
    refine XS.iloadN X3.here hx rfl (hb hby d1_8) rfl ?_
    show Steps p.tables e below (T3.setTop (mkF m 9 #[.val (.int p1), .val (.ref a2), .val (.int ((0 : Int32) + (1 : Int32))), .val (.int w4), .unset] [(.int ((0 : Int32) + (1 : Int32)))])) _
    refine XS.aloadN X3.here hx rfl (hb hby d1_9) rfl rfl ?_
    show Steps p.tables e below (T3.setTop (mkF m 10 #[.val (.int p1), .val (.ref a2), .val (.int ((0 : Int32) + (1 : Int32))), .val (.int w4), .unset] [(.ref a2), (.int ((0 : Int32) + (1 : Int32)))])) _
    refine X3.arraylength hx (by rw [e3]; exact Ar_a2.1) (State.isArrayOf_alike hZ.alike Ar_a2.2.1) (g := (mkF m 10 #[.val (.int p1), .val (.ref a2), .val (.int ((0 : Int32) + (1 : Int32))), .val (.int w4), .unset] [(.ref a2), (.int ((0 : Int32) + (1 : Int32)))])) rfl rfl (hb hby d1_10) _ ?_
    rw [len_of S_a2 N_a2]
    show Steps p.tables e below (T3.setTop (mkF m 11 #[.val (.int p1), .val (.ref a2), .val (.int ((0 : Int32) + (1 : Int32))), .val (.int w4), .unset] [(.int (3 : Int32)), (.int ((0 : Int32) + (1 : Int32)))])) _
    refine XS.icmpNo X3.here hx rfl (hb hby d1_11) rfl (tlt hc11_1).2.1 ?_
    show Steps p.tables e below (T3.setTop (mkF m 14 #[.val (.int p1), .val (.ref a2), .val (.int ((0 : Int32) + (1 : Int32))), .val (.int w4), .unset] [])) _
    refine XS.aloadN X3.here hx rfl (hb hby d1_14) rfl rfl ?_
    show Steps p.tables e below (T3.setTop (mkF m 15 #[.val (.int p1), .val (.ref a2), .val (.int ((0 : Int32) + (1 : Int32))), .val (.int w4), .unset] [(.ref a2)])) _
    refine XS.iloadN X3.here hx rfl (hb hby d1_15) rfl ?_
    show Steps p.tables e below (T3.setTop (mkF m 16 #[.val (.int p1), .val (.ref a2), .val (.int ((0 : Int32) + (1 : Int32))), .val (.int w4), .unset] [(.int ((0 : Int32) + (1 : Int32))), (.ref a2)])) _
    refine X3.iaload hx (j := ((0 : Int32) + (1 : Int32))) (v := (.int w5)) (by rw [e3]; exact Ar_a2.1) (State.isArrayOf_alike hZ.alike Ar_a2.2.1) Ar_a2.2.2 hin16_1 hat16_1 (g := (mkF m 16 #[.val (.int p1), .val (.ref a2), .val (.int ((0 : Int32) + (1 : Int32))), .val (.int w4), .unset] [(.int ((0 : Int32) + (1 : Int32))), (.ref a2)])) rfl rfl (hb hby d1_16) _ ?_
    show Steps p.tables e below (T3.setTop (mkF m 17 #[.val (.int p1), .val (.ref a2), .val (.int ((0 : Int32) + (1 : Int32))), .val (.int w4), .unset] [(.int w5)])) _
    refine XS.istoreN X3.here hx rfl (hb hby d1_17) rfl (l' := #[.val (.int p1), .val (.ref a2), .val (.int ((0 : Int32) + (1 : Int32))), .val (.int w5), .unset]) rfl ?_
    show Steps p.tables e below (T3.setTop (mkF m 18 #[.val (.int p1), .val (.ref a2), .val (.int ((0 : Int32) + (1 : Int32))), .val (.int w5), .unset] [])) _
    refine XS.iloadN X3.here hx rfl (hb hby d1_18) rfl ?_
    show Steps p.tables e below (T3.setTop (mkF m 19 #[.val (.int p1), .val (.ref a2), .val (.int ((0 : Int32) + (1 : Int32))), .val (.int w5), .unset] [(.int w5)])) _
    refine XS.ifNo X3.here hx rfl (hb hby d1_19) rfl ((if0 _ _).trans (flt hl1).1) ?_
    show Steps p.tables e below (T3.setTop (mkF m 22 #[.val (.int p1), .val (.ref a2), .val (.int ((0 : Int32) + (1 : Int32))), .val (.int w5), .unset] [])) _
    refine XS.iloadN X3.here hx rfl (hb hby d1_22) rfl ?_
    show Steps p.tables e below (T3.setTop (mkF m 23 #[.val (.int p1), .val (.ref a2), .val (.int ((0 : Int32) + (1 : Int32))), .val (.int w5), .unset] [(.int w5)])) _
    refine XS.iloadN X3.here hx rfl (hb hby d1_23) rfl ?_
    show Steps p.tables e below (T3.setTop (mkF m 24 #[.val (.int p1), .val (.ref a2), .val (.int ((0 : Int32) + (1 : Int32))), .val (.int w5), .unset] [(.int p1), (.int w5)])) _
    refine XS.icmpYes X3.here hx rfl (pc0 := 24) (pc' := 71) rfl (hb hby d1_24) rfl (tlt hh1).1 (by decide) (by decide) ?_
    show Steps p.tables e below (T3.setTop (mkF m 71 #[.val (.int p1), .val (.ref a2), .val (.int ((0 : Int32) + (1 : Int32))), .val (.int w5), .unset] [])) _
    refine XS.iinc X3.here hx rfl (hb hby d1_71) rfl (l' := #[.val (.int p1), .val (.ref a2), .val (.int (((0 : Int32) + (1 : Int32)) + (1 : Int32))), .val (.int w5), .unset]) rfl ?_
    show Steps p.tables e below (T3.setTop (mkF m 74 #[.val (.int p1), .val (.ref a2), .val (.int (((0 : Int32) + (1 : Int32)) + (1 : Int32))), .val (.int w5), .unset] [])) _
    refine XS.goto X3.here hx rfl (pc0 := 74) (pc' := 8) rfl (hb hby d1_74) (by decide) (by decide) ?_
    show Steps p.tables e below (T3.setTop (mkF m 8 #[.val (.int p1), .val (.ref a2), .val (.int (((0 : Int32) + (1 : Int32)) + (1 : Int32))), .val (.int w5), .unset] [])) _
    refine XS.iloadN X3.here hx rfl (hb hby d1_8) rfl ?_
    show Steps p.tables e below (T3.setTop (mkF m 9 #[.val (.int p1), .val (.ref a2), .val (.int (((0 : Int32) + (1 : Int32)) + (1 : Int32))), .val (.int w5), .unset] [(.int (((0 : Int32) + (1 : Int32)) + (1 : Int32)))])) _
    refine XS.aloadN X3.here hx rfl (hb hby d1_9) rfl rfl ?_
    show Steps p.tables e below (T3.setTop (mkF m 10 #[.val (.int p1), .val (.ref a2), .val (.int (((0 : Int32) + (1 : Int32)) + (1 : Int32))), .val (.int w5), .unset] [(.ref a2), (.int (((0 : Int32) + (1 : Int32)) + (1 : Int32)))])) _
    refine X3.arraylength hx (by rw [e3]; exact Ar_a2.1) (State.isArrayOf_alike hZ.alike Ar_a2.2.1) (g := (mkF m 10 #[.val (.int p1), .val (.ref a2), .val (.int (((0 : Int32) + (1 : Int32)) + (1 : Int32))), .val (.int w5), .unset] [(.ref a2), (.int (((0 : Int32) + (1 : Int32)) + (1 : Int32)))])) rfl rfl (hb hby d1_10) _ ?_
    rw [len_of S_a2 N_a2]
    show Steps p.tables e below (T3.setTop (mkF m 11 #[.val (.int p1), .val (.ref a2), .val (.int (((0 : Int32) + (1 : Int32)) + (1 : Int32))), .val (.int w5), .unset] [(.int (3 : Int32)), (.int (((0 : Int32) + (1 : Int32)) + (1 : Int32)))])) _
    refine XS.icmpNo X3.here hx rfl (hb hby d1_11) rfl (tlt hc11_2).2.1 ?_
    show Steps p.tables e below (T3.setTop (mkF m 14 #[.val (.int p1), .val (.ref a2), .val (.int (((0 : Int32) + (1 : Int32)) + (1 : Int32))), .val (.int w5), .unset] [])) _
    refine XS.aloadN X3.here hx rfl (hb hby d1_14) rfl rfl ?_
    show Steps p.tables e below (T3.setTop (mkF m 15 #[.val (.int p1), .val (.ref a2), .val (.int (((0 : Int32) + (1 : Int32)) + (1 : Int32))), .val (.int w5), .unset] [(.ref a2)])) _
    refine XS.iloadN X3.here hx rfl (hb hby d1_15) rfl ?_
    show Steps p.tables e below (T3.setTop (mkF m 16 #[.val (.int p1), .val (.ref a2), .val (.int (((0 : Int32) + (1 : Int32)) + (1 : Int32))), .val (.int w5), .unset] [(.int (((0 : Int32) + (1 : Int32)) + (1 : Int32))), (.ref a2)])) _
    refine X3.iaload hx (j := (((0 : Int32) + (1 : Int32)) + (1 : Int32))) (v := (.int w6)) (by rw [e3]; exact Ar_a2.1) (State.isArrayOf_alike hZ.alike Ar_a2.2.1) Ar_a2.2.2 hin16_2 hat16_2 (g := (mkF m 16 #[.val (.int p1), .val (.ref a2), .val (.int (((0 : Int32) + (1 : Int32)) + (1 : Int32))), .val (.int w5), .unset] [(.int (((0 : Int32) + (1 : Int32)) + (1 : Int32))), (.ref a2)])) rfl rfl (hb hby d1_16) _ ?_
    show Steps p.tables e below (T3.setTop (mkF m 17 #[.val (.int p1), .val (.ref a2), .val (.int (((0 : Int32) + (1 : Int32)) + (1 : Int32))), .val (.int w5), .unset] [(.int w6)])) _
    refine XS.istoreN X3.here hx rfl (hb hby d1_17) rfl (l' := #[.val (.int p1), .val (.ref a2), .val (.int (((0 : Int32) + (1 : Int32)) + (1 : Int32))), .val (.int w6), .unset]) rfl ?_
    show Steps p.tables e below (T3.setTop (mkF m 18 #[.val (.int p1), .val (.ref a2), .val (.int (((0 : Int32) + (1 : Int32)) + (1 : Int32))), .val (.int w6), .unset] [])) _
    refine XS.iloadN X3.here hx rfl (hb hby d1_18) rfl ?_
    show Steps p.tables e below (T3.setTop (mkF m 19 #[.val (.int p1), .val (.ref a2), .val (.int (((0 : Int32) + (1 : Int32)) + (1 : Int32))), .val (.int w6), .unset] [(.int w6)])) _
    refine XS.ifNo X3.here hx rfl (hb hby d1_19) rfl ((if0 _ _).trans (flt hl2).1) ?_
    show Steps p.tables e below (T3.setTop (mkF m 22 #[.val (.int p1), .val (.ref a2), .val (.int (((0 : Int32) + (1 : Int32)) + (1 : Int32))), .val (.int w6), .unset] [])) _
    refine XS.iloadN X3.here hx rfl (hb hby d1_22) rfl ?_
    show Steps p.tables e below (T3.setTop (mkF m 23 #[.val (.int p1), .val (.ref a2), .val (.int (((0 : Int32) + (1 : Int32)) + (1 : Int32))), .val (.int w6), .unset] [(.int w6)])) _
    refine XS.iloadN X3.here hx rfl (hb hby d1_23) rfl ?_
    show Steps p.tables e below (T3.setTop (mkF m 24 #[.val (.int p1), .val (.ref a2), .val (.int (((0 : Int32) + (1 : Int32)) + (1 : Int32))), .val (.int w6), .unset] [(.int p1), (.int w6)])) _
    refine XS.icmpYes X3.here hx rfl (pc0 := 24) (pc' := 71) rfl (hb hby d1_24) rfl (tlt hh2).1 (by decide) (by decide) ?_
    show Steps p.tables e below (T3.setTop (mkF m 71 #[.val (.int p1), .val (.ref a2), .val (.int (((0 : Int32) + (1 : Int32)) + (1 : Int32))), .val (.int w6), .unset] [])) _
    refine XS.iinc X3.here hx rfl (hb hby d1_71) rfl (l' := #[.val (.int p1), .val (.ref a2), .val (.int ((((0 : Int32) + (1 : Int32)) + (1 : Int32)) + (1 : Int32))), .val (.int w6), .unset]) rfl ?_
    show Steps p.tables e below (T3.setTop (mkF m 74 #[.val (.int p1), .val (.ref a2), .val (.int ((((0 : Int32) + (1 : Int32)) + (1 : Int32)) + (1 : Int32))), .val (.int w6), .unset] [])) _
    refine XS.goto X3.here hx rfl (pc0 := 74) (pc' := 8) rfl (hb hby d1_74) (by decide) (by decide) ?_
    show Steps p.tables e below (T3.setTop (mkF m 8 #[.val (.int p1), .val (.ref a2), .val (.int ((((0 : Int32) + (1 : Int32)) + (1 : Int32)) + (1 : Int32))), .val (.int w6), .unset] [])) _
    refine XS.iloadN X3.here hx rfl (hb hby d1_8) rfl ?_
    show Steps p.tables e below (T3.setTop (mkF m 9 #[.val (.int p1), .val (.ref a2), .val (.int ((((0 : Int32) + (1 : Int32)) + (1 : Int32)) + (1 : Int32))), .val (.int w6), .unset] [(.int ((((0 : Int32) + (1 : Int32)) + (1 : Int32)) + (1 : Int32)))])) _
    refine XS.aloadN X3.here hx rfl (hb hby d1_9) rfl rfl ?_
    show Steps p.tables e below (T3.setTop (mkF m 10 #[.val (.int p1), .val (.ref a2), .val (.int ((((0 : Int32) + (1 : Int32)) + (1 : Int32)) + (1 : Int32))), .val (.int w6), .unset] [(.ref a2), (.int ((((0 : Int32) + (1 : Int32)) + (1 : Int32)) + (1 : Int32)))])) _
    refine X3.arraylength hx (by rw [e3]; exact Ar_a2.1) (State.isArrayOf_alike hZ.alike Ar_a2.2.1) (g := (mkF m 10 #[.val (.int p1), .val (.ref a2), .val (.int ((((0 : Int32) + (1 : Int32)) + (1 : Int32)) + (1 : Int32))), .val (.int w6), .unset] [(.ref a2), (.int ((((0 : Int32) + (1 : Int32)) + (1 : Int32)) + (1 : Int32)))])) rfl rfl (hb hby d1_10) _ ?_
    rw [len_of S_a2 N_a2]
    show Steps p.tables e below (T3.setTop (mkF m 11 #[.val (.int p1), .val (.ref a2), .val (.int ((((0 : Int32) + (1 : Int32)) + (1 : Int32)) + (1 : Int32))), .val (.int w6), .unset] [(.int (3 : Int32)), (.int ((((0 : Int32) + (1 : Int32)) + (1 : Int32)) + (1 : Int32)))])) _
    refine XS.icmpYes X3.here hx rfl (pc0 := 11) (pc' := 77) rfl (hb hby d1_11) rfl (flt hc11_3).2.1 (by decide) (by decide) ?_
    show Steps p.tables e below (T3.setTop (mkF m 77 #[.val (.int p1), .val (.ref a2), .val (.int ((((0 : Int32) + (1 : Int32)) + (1 : Int32)) + (1 : Int32))), .val (.int w6), .unset] [])) _
    refine st7 _ ?_
    show Steps p.tables e below (T7.setTop (mkF m 80 #[.val (.int p1), .val (.ref a2), .val (.int ((((0 : Int32) + (1 : Int32)) + (1 : Int32)) + (1 : Int32))), .val (.int w6), .unset] [(.ref b7)])) _
    refine XS.dup X7.here hx rfl (hb hby d1_80) rfl rfl ?_
    show Steps p.tables e below (T7.setTop (mkF m 81 #[.val (.int p1), .val (.ref a2), .val (.int ((((0 : Int32) + (1 : Int32)) + (1 : Int32)) + (1 : Int32))), .val (.int w6), .unset] [(.ref b7), (.ref b7)])) _
    refine XS.iloadN X7.here hx rfl (hb hby d1_81) rfl ?_
    show Steps p.tables e below (T7.setTop (mkF m 82 #[.val (.int p1), .val (.ref a2), .val (.int ((((0 : Int32) + (1 : Int32)) + (1 : Int32)) + (1 : Int32))), .val (.int w6), .unset] [(.int p1), (.ref b7), (.ref b7)])) _
    refine XS.aloadN X7.here hx rfl (hb hby d1_82) rfl rfl ?_
    show Steps p.tables e below (T7.setTop (mkF m 83 #[.val (.int p1), .val (.ref a2), .val (.int ((((0 : Int32) + (1 : Int32)) + (1 : Int32)) + (1 : Int32))), .val (.int w6), .unset] [(.ref a2), (.int p1), (.ref b7), (.ref b7)])) _
    refine st8 _ ?_
    show Steps p.tables e below (T8.setTop (mkF m 86 #[.val (.int p1), .val (.ref a2), .val (.int ((((0 : Int32) + (1 : Int32)) + (1 : Int32)) + (1 : Int32))), .val (.int w6), .unset] [(.ref bc), (.int p1), (.ref b7), (.ref b7)])) _
    refine st9 _ ?_
    show Steps p.tables e below (T9.setTop (mkF m 89 #[.val (.int p1), .val (.ref a2), .val (.int ((((0 : Int32) + (1 : Int32)) + (1 : Int32)) + (1 : Int32))), .val (.int w6), .unset] [(.ref bc), (.int p1), (.ref b7), (.ref b7)])) _
    refine st10.trans ?_
    show Steps p.tables e below (T10.setTop (mkF m 92 #[.val (.int p1), .val (.ref a2), .val (.int ((((0 : Int32) + (1 : Int32)) + (1 : Int32)) + (1 : Int32))), .val (.int w6), .unset] [(.ref b7)])) _
    jvm_step X10.here [X10.here.top, hx, (hb hby d1_92), X10.method', Bd.returns, Value.isRef, FieldType.isReference]
    first | (intro acts; rw [hr _ acts rfl rfl rfl]) | rw [hr _ _ rfl rfl rfl]
    exact Steps.refl _
  · show Q1 Z p1 kk (3 : Int32) [(.int w4), (.int w5), (.int w6)] h0 n0 _ T10.heap _
    exact ⟨b7, bc, rfl, N10, (K7.ext E8).trans K10 (allS (Or.inr sz_b7) all0), sz_b7, Nat.le_trans K7.1 (Nat.le_of_eq gc.symm), E10', F1, F2, Vc.keep K10 (ninS (Nat.ne_of_gt (by rw [gc]; exact E_b7.lt)) nin0)⟩

theorem pn_0 : plainName "com/example/ballast/ballast/PlacementOfPinLaw" = true := by first | (simp [plainName, overriddenIn]; done) | decide +kernel
theorem pd_0_0 : parseMethodDescriptor "(I[I)Lcom/example/ballast/ballast/Placement;" = some ⟨[.int, (.array .int)], some (.object "com/example/ballast/ballast/Placement")⟩ := by decide +kernel
theorem pd_0_5 : parseMethodDescriptor "()I" = some ⟨[], some .int⟩ := by decide +kernel
theorem pd_0_6 : parseMethodDescriptor "(I)I" = some ⟨[.int], some .int⟩ := by decide +kernel
theorem ef_0 (m : MethodId) (x0 : Int32) (x1 : Int32) (x2 : Int32) (x3 : Int32) (x4 : Int32) : entryFrame m #[(.int x0), (.int x1), (.int x2), (.int x3), (.int x4)] maxLocals = mkF m 0 #[.val (.int x0), .val (.int x1), .val (.int x2), .val (.int x3), .val (.int x4), .unset, .unset, .unset, .unset, .unset, .unset, .unset, .unset, .unset, .unset] [] := by first | (simp [entryFrame, mkF, argsToLocals, Value.category, maxLocals]; done) | rfl
def Q0 (Z : State) (p1 : Int32) (p2 : Int32) (p3 : Int32) (p4 : Int32) (p5 : Int32) (h0 : Heap) (n0 : Nat) (v : Option Value) (h : Heap) (L : List Loc) : Prop := v = some (.int (1 : Int32)) ∧ Fr n0 L
set_option maxRecDepth 65536 in
set_option maxHeartbeats 40000000 in
theorem rm0_1 (l : Launch) (Z : State) (a0 : Array Value) (hw : ∀ d ∈ tables_1, d.before a0 Z = true) (ws : List Jvm.Cond) (p1 : Int32) (p2 : Int32) (p3 : Int32) (p4 : Int32) (p5 : Int32) (h0 : Heap) (n0 : Nat) (Z0 : n0 ≤ h0.size) (hL : (((p1 &&& (2147483647 : Int32)) % (3 : Int32)) + (1 : Int32)) = (1 : Int32)) (hc103 : (1 : Int32) = (1 : Int32)) (hc181 : (1 : Int32) < (2 : Int32)) (hc200 : (1 : Int32) < (3 : Int32)) :
    MetFree l x (head1 (Jvm.Cond.code x code maxLocals ret :: ws) room_1) (fun a U => a = #[(.int p1), (.int p2), (.int p3), (.int p4), (.int p5)] ∧ Z.Warmed39 U.vm ∧ U.heap = h0) (fun _ _ _ _ _ => True) (fun _ U o U' => ∃ v L, o = .returned v ∧ Q0 Z p1 p2 p3 p4 p5 h0 n0 v U'.heap L ∧ FrameEnd U o U' L room_1.cells room_1.slots) := by
  refine MetFree.of_bodySF (plainFor_of_name pn_0) hisR ?_
  intro p e s m args below meth c s₁ Bd hml0 hP hK
  obtain ⟨rfl, hZ, hh⟩ := hP
  have hx := Bd.exec
  have hby := Bd.bytes
  have hml : c.maxLocals = 15 := hml0
  have hown : s.vm.findClass "com/example/ballast/ballast/PlacementOfPinLaw" = some m.cls := findClass_of_methodNamed Bd.named
  have hnm := (name_of_methodNamed Bd.named Bd.method).1
  have X0 : Stand p l e room_1 s m #[(.int p1), (.int p2), (.int p3), (.int p4), (.int p5)] below meth c s₁ [] 0 0 := Stand.of_body Bd
  have e0 : s₁.heap = h0 := by rw [← hh, Bd.state]; rfl
  have N0 := Fr.nil n0
  have pre0 : ∀ t, Steps p.tables e below (s₁.setTop (mkF m 0 #[.val (.int p1), .val (.int p2), .val (.int p3), .val (.int p4), .val (.int p5), .unset, .unset, .unset, .unset, .unset, .unset, .unset, .unset, .unset, .unset] [])) t → Steps p.tables e below (s₁.setTop (entryFrame m #[(.int p1), (.int p2), (.int p3), (.int p4), (.int p5)] maxLocals)) t := fun t k => castTop (ef_0 m p1 p2 p3 p4 p5) k
  obtain ⟨wk, hWk, hw1, hw2, hw0⟩ := own_w p2 (1 : Int32) (by decide) (by decide)
  obtain ⟨e_0, hE0, hl0, hh0⟩ := own_e p3 wk hw0
  obtain ⟨e_1, hE1, hl1, hh1⟩ := own_e p4 wk hw0
  obtain ⟨e_2, hE2, hl2, hh2⟩ := own_e p5 wk hw0
  obtain ⟨T6, h6, k6, X6, e6, E6, A6, B6, st6⟩ := newPE X0 hx hZ (hw _ (List.mem_of_getElem? (i := 1) rfl)) e0 (g := (mkF m 50 #[.val (.int p1), .val (.int p2), .val (.int p3), .val (.int p4), .val (.int p5), .val (.int (1 : Int32)), .val (.int wk), .val (.int e_0), .val (.int e_1), .val (.int e_2), .unset, .unset, .unset, .unset, .unset] [(.int (1 : Int32))])) rfl (hb hby at_50) rfl (by decide) (cap := 1) (by decide) (by decide) (by decide) (by decide) (ad := "[I") rfl
  obtain ⟨b6, g6⟩ : ∃ z, z = h0.size := ⟨_, rfl⟩
  rw [← g6] at A6 B6 st6
  have V_b6 : Arv Z h6 b6 k6 .int (1 : Int32) [(.int (0 : Int32))] (.int (0 : Int32)) := (Arv.new A6 (by decide)).pad (pad_rep [] (.int (0 : Int32)) 1)
  have g_b6 : n0 ≤ b6 := Nat.le_trans Z0 (Nat.le_of_eq g6.symm)
  have sz_b6 : h0.size ≤ b6 := (Nat.le_trans (Keep.refl h0 []).1 (Nat.le_of_eq g6.symm))
  have K6 : Keep h0 h6 [] := (Keep.refl h0 []).ext E6
  obtain ⟨T7, h7, k7, X7, e7, E7, A7, st7⟩ := newP X6 hx hZ (hw _ (List.mem_of_getElem? (i := 1) rfl)) e6 (g := (mkF m 55 #[.val (.int p1), .val (.int p2), .val (.int p3), .val (.int p4), .val (.int p5), .val (.int (1 : Int32)), .val (.int wk), .val (.int e_0), .val (.int e_1), .val (.int e_2), .val (.ref b6), .unset, .unset, .unset, .unset] [(.int (2 : Int32))])) rfl (hb hby at_55) rfl (by decide) (cap := 2) (by decide) (by decide) (by decide) (by decide)
  obtain ⟨b7, g7⟩ : ∃ z, z = h6.size := ⟨_, rfl⟩
  rw [← g7] at A7 st7
  have V_b7 : Arv Z h7 b7 k7 .int (2 : Int32) [(.int (0 : Int32)), (.int (0 : Int32))] (.int (0 : Int32)) := (Arv.new A7 (by decide)).pad (pad_rep [] (.int (0 : Int32)) 2)
  have g_b7 : n0 ≤ b7 := Nat.le_trans (Nat.le_trans Z0 E6.1) (Nat.le_of_eq g7.symm)
  have sz_b7 : h0.size ≤ b7 := (Nat.le_trans K6.1 (Nat.le_of_eq g7.symm))
  have K7 : Keep h0 h7 [] := K6.ext E7
  obtain ⟨T8, h8, k8, X8, e8, E8, A8, st8⟩ := newP X7 hx hZ (hw _ (List.mem_of_getElem? (i := 1) rfl)) e7 (g := (mkF m 60 #[.val (.int p1), .val (.int p2), .val (.int p3), .val (.int p4), .val (.int p5), .val (.int (1 : Int32)), .val (.int wk), .val (.int e_0), .val (.int e_1), .val (.int e_2), .val (.ref b6), .val (.ref b7), .unset, .unset, .unset] [(.int (3 : Int32))])) rfl (hb hby at_60) rfl (by decide) (cap := 3) (by decide) (by decide) (by decide) (by decide)
  obtain ⟨b8, g8⟩ : ∃ z, z = h7.size := ⟨_, rfl⟩
  rw [← g8] at A8 st8
  have V_b8 : Arv Z h8 b8 k8 .int (3 : Int32) [(.int (0 : Int32)), (.int (0 : Int32)), (.int (0 : Int32))] (.int (0 : Int32)) := (Arv.new A8 (by decide)).pad (pad_rep [] (.int (0 : Int32)) 3)
  have g_b8 : n0 ≤ b8 := Nat.le_trans (Nat.le_trans (Nat.le_trans Z0 E6.1) E7.1) (Nat.le_of_eq g8.symm)
  have sz_b8 : h0.size ≤ b8 := (Nat.le_trans K7.1 (Nat.le_of_eq g8.symm))
  have K8 : Keep h0 h8 [] := K7.ext E8
  have ne67 : b6 ≠ b7 := Nat.ne_of_lt (by rw [g7]; exact V_b6.lt)
  have ne78 : b7 ≠ b8 := Nat.ne_of_lt (by rw [g8]; exact V_b7.lt)
  have ne68 : b6 ≠ b8 := Nat.ne_of_lt (by rw [g8]; exact (V_b6.ext E7).lt)
  obtain ⟨cl_b6_69, Ar_b6, q_b6, S_b6, N_b6, H_b6, G_b6⟩ := ((V_b6.ext E7).ext E8)
  have hin69 : ¬ ((0 : Int32) < 0 ∨ cl_b6_69.slots.size ≤ ((0 : Int32)).toNatClampNeg) := inb_of S_b6 ⟨by decide, by decide⟩
  obtain ⟨T9, h9, X9, e9, W9, st9⟩ := stI X8 hx hZ e8 Ar_b6 (j := (0 : Int32)) hin69 (g := (mkF m 69 #[.val (.int p1), .val (.int p2), .val (.int p3), .val (.int p4), .val (.int p5), .val (.int (1 : Int32)), .val (.int wk), .val (.int e_0), .val (.int e_1), .val (.int e_2), .val (.ref b6), .val (.ref b7), .val (.ref b8), .unset, .unset] [(.int e_0), (.int (0 : Int32)), (.ref b6)])) rfl rfl (hb hby at_69)
  have V_b6_9 := Arv.set Ar_b6 q_b6 S_b6 N_b6 H_b6 G_b6 rfl W9 0 rfl (Nat.le_of_ble_eq_true rfl)
  have K9 : Keep h0 h9 [] := K8.wr W9 (Or.inr sz_b6)
  have N9 := Fr.snoc X9 N0 g_b6
  obtain ⟨cl_b7_75, Ar_b7, q_b7, S_b7, N_b7, H_b7, G_b7⟩ := ((V_b7.ext E8).other W9 (Ne.symm ne67))
  have hin75 : ¬ ((0 : Int32) < 0 ∨ cl_b7_75.slots.size ≤ ((0 : Int32)).toNatClampNeg) := inb_of S_b7 ⟨by decide, by decide⟩
  obtain ⟨T10, h10, X10, e10, W10, st10⟩ := stI X9 hx hZ e9 Ar_b7 (j := (0 : Int32)) hin75 (g := (mkF m 75 #[.val (.int p1), .val (.int p2), .val (.int p3), .val (.int p4), .val (.int p5), .val (.int (1 : Int32)), .val (.int wk), .val (.int e_0), .val (.int e_1), .val (.int e_2), .val (.ref b6), .val (.ref b7), .val (.ref b8), .unset, .unset] [(.int e_0), (.int (0 : Int32)), (.ref b7)])) rfl rfl (hb hby at_75)
  have V_b7_10 := Arv.set Ar_b7 q_b7 S_b7 N_b7 H_b7 G_b7 rfl W10 0 rfl (Nat.le_of_ble_eq_true rfl)
  have K10 : Keep h0 h10 [] := K9.wr W10 (Or.inr sz_b7)
  have N10 := Fr.snoc X10 N9 g_b7
  obtain ⟨cl_b7_81, Ar_b7, q_b7, S_b7, N_b7, H_b7, G_b7⟩ := V_b7_10
  have hin81 : ¬ ((1 : Int32) < 0 ∨ cl_b7_81.slots.size ≤ ((1 : Int32)).toNatClampNeg) := inb_of S_b7 ⟨by decide, by decide⟩
  obtain ⟨T11, h11, X11, e11, W11, st11⟩ := stI X10 hx hZ e10 Ar_b7 (j := (1 : Int32)) hin81 (g := (mkF m 81 #[.val (.int p1), .val (.int p2), .val (.int p3), .val (.int p4), .val (.int p5), .val (.int (1 : Int32)), .val (.int wk), .val (.int e_0), .val (.int e_1), .val (.int e_2), .val (.ref b6), .val (.ref b7), .val (.ref b8), .unset, .unset] [(.int e_1), (.int (1 : Int32)), (.ref b7)])) rfl rfl (hb hby at_81)
  have V_b7_11 := Arv.set Ar_b7 q_b7 S_b7 N_b7 H_b7 G_b7 rfl W11 1 rfl (Nat.le_of_ble_eq_true rfl)
  have K11 : Keep h0 h11 [] := K10.wr W11 (Or.inr sz_b7)
  have N11 := Fr.snoc X11 N10 g_b7
  obtain ⟨cl_b8_87, Ar_b8, q_b8, S_b8, N_b8, H_b8, G_b8⟩ := (((V_b8.other W9 (Ne.symm ne68)).other W10 (Ne.symm ne78)).other W11 (Ne.symm ne78))
  have hin87 : ¬ ((0 : Int32) < 0 ∨ cl_b8_87.slots.size ≤ ((0 : Int32)).toNatClampNeg) := inb_of S_b8 ⟨by decide, by decide⟩
  obtain ⟨T12, h12, X12, e12, W12, st12⟩ := stI X11 hx hZ e11 Ar_b8 (j := (0 : Int32)) hin87 (g := (mkF m 87 #[.val (.int p1), .val (.int p2), .val (.int p3), .val (.int p4), .val (.int p5), .val (.int (1 : Int32)), .val (.int wk), .val (.int e_0), .val (.int e_1), .val (.int e_2), .val (.ref b6), .val (.ref b7), .val (.ref b8), .unset, .unset] [(.int e_0), (.int (0 : Int32)), (.ref b8)])) rfl rfl (hb hby at_87)
  have V_b8_12 := Arv.set Ar_b8 q_b8 S_b8 N_b8 H_b8 G_b8 rfl W12 0 rfl (Nat.le_of_ble_eq_true rfl)
  have K12 : Keep h0 h12 [] := K11.wr W12 (Or.inr sz_b8)
  have N12 := Fr.snoc X12 N11 g_b8
  obtain ⟨cl_b8_93, Ar_b8, q_b8, S_b8, N_b8, H_b8, G_b8⟩ := V_b8_12
  have hin93 : ¬ ((1 : Int32) < 0 ∨ cl_b8_93.slots.size ≤ ((1 : Int32)).toNatClampNeg) := inb_of S_b8 ⟨by decide, by decide⟩
  obtain ⟨T13, h13, X13, e13, W13, st13⟩ := stI X12 hx hZ e12 Ar_b8 (j := (1 : Int32)) hin93 (g := (mkF m 93 #[.val (.int p1), .val (.int p2), .val (.int p3), .val (.int p4), .val (.int p5), .val (.int (1 : Int32)), .val (.int wk), .val (.int e_0), .val (.int e_1), .val (.int e_2), .val (.ref b6), .val (.ref b7), .val (.ref b8), .unset, .unset] [(.int e_1), (.int (1 : Int32)), (.ref b8)])) rfl rfl (hb hby at_93)
  have V_b8_13 := Arv.set Ar_b8 q_b8 S_b8 N_b8 H_b8 G_b8 rfl W13 1 rfl (Nat.le_of_ble_eq_true rfl)
  have K13 : Keep h0 h13 [] := K12.wr W13 (Or.inr sz_b8)
  have N13 := Fr.snoc X13 N12 g_b8
  obtain ⟨cl_b8_99, Ar_b8, q_b8, S_b8, N_b8, H_b8, G_b8⟩ := V_b8_13
  have hin99 : ¬ ((2 : Int32) < 0 ∨ cl_b8_99.slots.size ≤ ((2 : Int32)).toNatClampNeg) := inb_of S_b8 ⟨by decide, by decide⟩
  obtain ⟨T14, h14, X14, e14, W14, st14⟩ := stI X13 hx hZ e13 Ar_b8 (j := (2 : Int32)) hin99 (g := (mkF m 99 #[.val (.int p1), .val (.int p2), .val (.int p3), .val (.int p4), .val (.int p5), .val (.int (1 : Int32)), .val (.int wk), .val (.int e_0), .val (.int e_1), .val (.int e_2), .val (.ref b6), .val (.ref b7), .val (.ref b8), .unset, .unset] [(.int e_2), (.int (2 : Int32)), (.ref b8)])) rfl rfl (hb hby at_99)
  have V_b8_14 := Arv.set Ar_b8 q_b8 S_b8 N_b8 H_b8 G_b8 rfl W14 2 rfl (Nat.le_of_ble_eq_true rfl)
  have K14 : Keep h0 h14 [] := K13.wr W14 (Or.inr sz_b8)
  have N14 := Fr.snoc X14 N13 g_b8
  have VN : Arv Z h14 b6 k6 .int (1 : Int32) [(.int e_0)] (.int (0 : Int32)) := (((((V_b6_9.other W10 ne67).other W11 ne67).other W12 ne68).other W13 ne68).other W14 ne68)
  have Z14 : n0 ≤ h14.size := Nat.le_trans Z0 K14.1
  obtain ⟨_, _, ⟨T15, L15, k15, n15⟩, -, X15, ⟨Lc15, hQ15, l15, y15, z15⟩, st15⟩ := Jvm.LawKit.callS X14 hx (y := (⟨"com/example/ballast/ballast/Placement", "of", "(I[I)Lcom/example/ballast/ballast/Placement;"⟩ : MethodName)) hown (mvT hZ (hw _ (List.mem_of_getElem? (i := 2) rfl))) (mvT hZ (hw _ (List.mem_of_getElem? (i := 3) rfl))) (mvT hZ (hw _ (List.mem_of_getElem? (i := 4) rfl))) (mvT hZ (hw _ (List.mem_of_getElem? (i := 5) rfl))) (by decide) (backOf (W := 0) (rm1_1 l Z a0 hw [] wk b6 _ e_0 h14 n0 Z14 VN ((((((((B6.ext E7).ext E8).wr W9).wr W10).wr W11).wr W12).wr W13).wr W14) hw1 hw2 hl0 hh0) hZ (hw _ (List.mem_of_getElem? (i := 5) rfl)) (hw _ (List.mem_of_getElem? (i := 4) rfl)) (by decide) (by decide)) (g := (mkF m 130 #[.val (.int p1), .val (.int p2), .val (.int p3), .val (.int p4), .val (.int p5), .val (.int (1 : Int32)), .val (.int wk), .val (.int e_0), .val (.int e_1), .val (.int e_2), .val (.ref b6), .val (.ref b7), .val (.ref b8), .val (.ref b6), .unset] [(.ref b6), (.int wk)])) rfl (by rw [hml]; rfl) (argsL := [(.int wk), (.ref b6)]) (rest := []) (lenOf pd_0_0 rfl) rfl (by show 2 * 0 + _ ≤ _; exact Nat.le_of_eq rfl) (hb hby at_130) (fun _ _ => ⟨rfl, e14, (by decide : 3 + 2 ≤ _), (by decide : 6 + 3 ≤ _)⟩)
  dsimp only [Pt.U, Pt.locs, Pt.cells, Pt.slots] at X15 l15 y15 z15 st15 hQ15
  subst l15 y15 z15
  obtain ⟨bp, bq, rfl, N15q, K15, gp, gq, Ep, Fw, Fo, Vq⟩ := hQ15
  have N15 := Fr.app N14 N15q
  obtain ⟨cl_b6_140, Ar_b6, q_b6, S_b6, N_b6, H_b6, G_b6⟩ := VN.keep K15 nin0
  have hin140 : ¬ ((0 : Int32) < 0 ∨ cl_b6_140.slots.size ≤ ((0 : Int32)).toNatClampNeg) := inb_of S_b6 ⟨by decide, by decide⟩
  obtain ⟨T16, h16, X16, e16, W16, st16⟩ := stI X15 hx hZ rfl Ar_b6 (j := (0 : Int32)) hin140 (g := (mkF m 140 #[.val (.int p1), .val (.int p2), .val (.int p3), .val (.int p4), .val (.int p5), .val (.int (1 : Int32)), .val (.int wk), .val (.int e_0), .val (.int e_1), .val (.int e_2), .val (.ref b6), .val (.ref b7), .val (.ref b8), .val (.ref b6), .val (.ref bp)] [(.int wk), (.int (0 : Int32)), (.ref b6)])) rfl rfl (hb hby at_140)
  have V_b6_16 := Arv.set Ar_b6 q_b6 S_b6 N_b6 H_b6 G_b6 rfl W16 0 rfl (Nat.le_of_ble_eq_true rfl)
  have K16 : Keep h0 h16 [] := (K14.trans K15 all0).wr W16 (Or.inr sz_b6)
  have N16 := Fr.snoc X16 N15 g_b6
  have nep : bp ≠ b6 := Nat.ne_of_gt (Nat.lt_of_lt_of_le VN.lt gp)
  have neq : bq ≠ b6 := Nat.ne_of_gt (Nat.lt_of_lt_of_le VN.lt gq)
  have Z16 : n0 ≤ h16.size := Nat.le_trans Z0 K16.1
  have Ep16 := Ep.wr W16
  have Fw16 := Fw.other W16 (Or.inl nep)
  have Fo16 := Fo.other W16 (Or.inl nep)
  obtain ⟨clq, Arq, qq, Sq, Nq, Hq, Gq⟩ := Vq.other W16 neq
  have hiq0 : ¬ ((0 : Int32) < 0 ∨ clq.slots.size ≤ ((0 : Int32)).toNatClampNeg) := inb_of Sq ⟨by decide, by decide⟩
  have haq0 : clq.slots[((0 : Int32)).toNatClampNeg]? = some (.int e_0) := Hq.at hiq0 rfl
  obtain ⟨cq17, kq17, q17a, q17b, q17c⟩ := isOf hZ e16 (Ep16)
  obtain ⟨_, _, ⟨T17, L17, k17, n17⟩, -, X17, ⟨Lc17, hQ17, l17, y17, z17⟩, st17⟩ := X16.virtualBack hx (y := (⟨"com/example/ballast/ballast/Placement", "partitions", "()I"⟩ : MethodName)) (z := (⟨"com/example/ballast/ballast/Placement", "partitions", "()I"⟩ : MethodName)) hown (mvT hZ (hw _ (List.mem_of_getElem? (i := 30) rfl))) (mvT hZ (hw _ (List.mem_of_getElem? (i := 31) rfl))) (notFace_of_selects (args := #[]) (mvT hZ (hw _ (List.mem_of_getElem? (i := 33) rfl)))) (mvT hZ (hw _ (List.mem_of_getElem? (i := 33) rfl))) (mvT hZ (hw _ (List.mem_of_getElem? (i := 32) rfl))) (by decide) (backOf (W := 0) (rm5 l Z a0 hw [] bp bq clq (1 : Int32) h16 n0 Z16 Fo16 Arq Sq Nq) hZ (hw _ (List.mem_of_getElem? (i := 34) rfl)) (hw _ (List.mem_of_getElem? (i := 4) rfl)) (by decide) (by decide)) q17a q17c (g := (mkF m 143 #[.val (.int p1), .val (.int p2), .val (.int p3), .val (.int p4), .val (.int p5), .val (.int (1 : Int32)), .val (.int wk), .val (.int e_0), .val (.int e_1), .val (.int e_2), .val (.ref b6), .val (.ref b7), .val (.ref b8), .val (.ref b6), .val (.ref bp)] [(.ref bp)])) rfl (by rw [hml]; rfl) (Steps.refl _) (argsL := []) (rest := []) (lenOf pd_0_5 rfl) rfl (by show 2 * 0 + _ ≤ _; exact Nat.le_of_eq rfl) (hb hby at_143) (fun _ _ => ⟨rfl, e16, (by decide : 5 + 0 ≤ _), (by decide : 9 + 0 ≤ _)⟩)
  dsimp only [Pt.U, Pt.locs, Pt.cells, Pt.slots] at X17 l17 y17 z17 st17 hQ17
  subst l17 y17 z17
  obtain ⟨rfl, N17q, e17⟩ := hQ17
  have N17 := Fr.app N16 N17q
  obtain ⟨cq18, kq18, q18a, q18b, q18c⟩ := isOf hZ e17 (Ep16)
  obtain ⟨_, _, ⟨T18, L18, k18, n18⟩, -, X18, ⟨Lc18, hQ18, l18, y18, z18⟩, st18⟩ := X17.virtualBack hx (y := (⟨"com/example/ballast/ballast/Placement", "workers", "()I"⟩ : MethodName)) (z := (⟨"com/example/ballast/ballast/Placement", "workers", "()I"⟩ : MethodName)) hown (mvT hZ (hw _ (List.mem_of_getElem? (i := 35) rfl))) (mvT hZ (hw _ (List.mem_of_getElem? (i := 36) rfl))) (notFace_of_selects (args := #[]) (mvT hZ (hw _ (List.mem_of_getElem? (i := 38) rfl)))) (mvT hZ (hw _ (List.mem_of_getElem? (i := 38) rfl))) (mvT hZ (hw _ (List.mem_of_getElem? (i := 37) rfl))) (by decide) (backOf (W := 0) (rm6 l Z a0 hw [] bp wk h16 n0 Z16 Fw16) hZ (hw _ (List.mem_of_getElem? (i := 39) rfl)) (hw _ (List.mem_of_getElem? (i := 4) rfl)) (by decide) (by decide)) q18a q18c (g := (mkF m 155 #[.val (.int p1), .val (.int p2), .val (.int p3), .val (.int p4), .val (.int p5), .val (.int (1 : Int32)), .val (.int wk), .val (.int e_0), .val (.int e_1), .val (.int e_2), .val (.ref b6), .val (.ref b7), .val (.ref b8), .val (.ref b6), .val (.ref bp)] [(.ref bp)])) rfl (by rw [hml]; rfl) (Steps.refl _) (argsL := []) (rest := []) (lenOf pd_0_5 rfl) rfl (by show 2 * 0 + _ ≤ _; exact Nat.le_of_eq rfl) (hb hby at_155) (fun _ _ => ⟨rfl, e17, (by decide : 5 + 0 ≤ _), (by decide : 9 + 0 ≤ _)⟩)
  dsimp only [Pt.U, Pt.locs, Pt.cells, Pt.slots] at X18 l18 y18 z18 st18 hQ18
  subst l18 y18 z18
  obtain ⟨rfl, N18q, e18⟩ := hQ18
  have N18 := Fr.app N17 N18q
  obtain ⟨cq19, kq19, q19a, q19b, q19c⟩ := isOf hZ e18 (Ep16)
  obtain ⟨_, _, ⟨T19, L19, k19, n19⟩, -, X19, ⟨Lc19, hQ19, l19, y19, z19⟩, st19⟩ := X18.virtualBack hx (y := (⟨"com/example/ballast/ballast/Placement", "workerOf", "(I)I"⟩ : MethodName)) (z := (⟨"com/example/ballast/ballast/Placement", "workerOf", "(I)I"⟩ : MethodName)) hown (mvT hZ (hw _ (List.mem_of_getElem? (i := 40) rfl))) (mvT hZ (hw _ (List.mem_of_getElem? (i := 41) rfl))) (notFace_of_selects (args := #[]) (mvT hZ (hw _ (List.mem_of_getElem? (i := 43) rfl)))) (mvT hZ (hw _ (List.mem_of_getElem? (i := 43) rfl))) (mvT hZ (hw _ (List.mem_of_getElem? (i := 42) rfl))) (by decide) (backOf (W := 0) (rm7 l Z a0 hw [] bp (0 : Int32) bq e_0 clq h16 n0 Z16 Fo16 Arq hiq0 haq0) hZ (hw _ (List.mem_of_getElem? (i := 44) rfl)) (hw _ (List.mem_of_getElem? (i := 4) rfl)) (by decide) (by decide)) q19a q19c (g := (mkF m 168 #[.val (.int p1), .val (.int p2), .val (.int p3), .val (.int p4), .val (.int p5), .val (.int (1 : Int32)), .val (.int wk), .val (.int e_0), .val (.int e_1), .val (.int e_2), .val (.ref b6), .val (.ref b7), .val (.ref b8), .val (.ref b6), .val (.ref bp)] [(.int (0 : Int32)), (.ref bp)])) rfl (by rw [hml]; rfl) (Steps.refl _) (argsL := [(.int (0 : Int32))]) (rest := []) (lenOf pd_0_6 rfl) rfl (by show 2 * 0 + _ ≤ _; exact Nat.le_of_eq rfl) (hb hby at_168) (fun _ _ => ⟨rfl, e18, (by decide : 5 + 0 ≤ _), (by decide : 9 + 0 ≤ _)⟩)
  dsimp only [Pt.U, Pt.locs, Pt.cells, Pt.slots] at X19 l19 y19 z19 st19 hQ19
  subst l19 y19 z19
  obtain ⟨rfl, N19q, e19⟩ := hQ19
  have N19 := Fr.app N18 N19q
  obtain ⟨fs, hr, hrun, hended, hW, hsame⟩ := X19.leave (v := some (.int (1 : Int32))) (fun h => by rw [Bd.returns] at h; cases h)
  refine ⟨_, _, pre0 _ ?_, hrun, hended, _, _, rfl, ?_, ⟨_, rfl⟩, hW, hsame.mono (by decide) (by decide)⟩
  · show Steps p.tables e below (s₁.setTop (mkF m 0 #[.val (.int p1), .val (.int p2), .val (.int p3), .val (.int p4), .val (.int p5), .unset, .unset, .unset, .unset, .unset, .unset, .unset, .unset, .unset, .unset] [])) _
    refine XS.iloadN X0.here hx rfl (hb hby at_0) rfl ?_
    show Steps p.tables e below (s₁.setTop (mkF m 1 #[.val (.int p1), .val (.int p2), .val (.int p3), .val (.int p4), .val (.int p5), .unset, .unset, .unset, .unset, .unset, .unset, .unset, .unset, .unset, .unset] [(.int p1)])) _
    refine X0.ldcInt hx hown (mvT hZ (hw _ (List.mem_of_getElem? (i := 0) rfl))) (g := (mkF m 1 #[.val (.int p1), .val (.int p2), .val (.int p3), .val (.int p4), .val (.int p5), .unset, .unset, .unset, .unset, .unset, .unset, .unset, .unset, .unset, .unset] [(.int p1)])) rfl (hb hby at_1) _ ?_
    show Steps p.tables e below (s₁.setTop (mkF m 3 #[.val (.int p1), .val (.int p2), .val (.int p3), .val (.int p4), .val (.int p5), .unset, .unset, .unset, .unset, .unset, .unset, .unset, .unset, .unset, .unset] [(.int (2147483647 : Int32)), (.int p1)])) _
    refine XS.iand X0.here hx rfl (hb hby at_3) rfl ?_
    show Steps p.tables e below (s₁.setTop (mkF m 4 #[.val (.int p1), .val (.int p2), .val (.int p3), .val (.int p4), .val (.int p5), .unset, .unset, .unset, .unset, .unset, .unset, .unset, .unset, .unset, .unset] [(.int (p1 &&& (2147483647 : Int32)))])) _
    refine XS.iconst X0.here hx rfl (hb hby at_4) ?_
    show Steps p.tables e below (s₁.setTop (mkF m 5 #[.val (.int p1), .val (.int p2), .val (.int p3), .val (.int p4), .val (.int p5), .unset, .unset, .unset, .unset, .unset, .unset, .unset, .unset, .unset, .unset] [(.int (3 : Int32)), (.int (p1 &&& (2147483647 : Int32)))])) _
    refine iremM X0 hx rfl (hb hby at_5) rfl (by decide) ?_
    show Steps p.tables e below (s₁.setTop (mkF m 6 #[.val (.int p1), .val (.int p2), .val (.int p3), .val (.int p4), .val (.int p5), .unset, .unset, .unset, .unset, .unset, .unset, .unset, .unset, .unset, .unset] [(.int ((p1 &&& (2147483647 : Int32)) % (3 : Int32)))])) _
    refine XS.iconst X0.here hx rfl (hb hby at_6) ?_
    show Steps p.tables e below (s₁.setTop (mkF m 7 #[.val (.int p1), .val (.int p2), .val (.int p3), .val (.int p4), .val (.int p5), .unset, .unset, .unset, .unset, .unset, .unset, .unset, .unset, .unset, .unset] [(.int (1 : Int32)), (.int ((p1 &&& (2147483647 : Int32)) % (3 : Int32)))])) _
    refine XS.iadd X0.here hx rfl (hb hby at_7) rfl ?_
    show Steps p.tables e below (s₁.setTop (mkF m 8 #[.val (.int p1), .val (.int p2), .val (.int p3), .val (.int p4), .val (.int p5), .unset, .unset, .unset, .unset, .unset, .unset, .unset, .unset, .unset, .unset] [(.int (((p1 &&& (2147483647 : Int32)) % (3 : Int32)) + (1 : Int32)))])) _
    rw [hL]
    show Steps p.tables e below (s₁.setTop (mkF m 8 #[.val (.int p1), .val (.int p2), .val (.int p3), .val (.int p4), .val (.int p5), .unset, .unset, .unset, .unset, .unset, .unset, .unset, .unset, .unset, .unset] [(.int (1 : Int32))])) _
    refine XS.istore X0.here hx rfl (hb hby at_8) rfl (l' := #[.val (.int p1), .val (.int p2), .val (.int p3), .val (.int p4), .val (.int p5), .val (.int (1 : Int32)), .unset, .unset, .unset, .unset, .unset, .unset, .unset, .unset, .unset]) rfl ?_
    show Steps p.tables e below (s₁.setTop (mkF m 10 #[.val (.int p1), .val (.int p2), .val (.int p3), .val (.int p4), .val (.int p5), .val (.int (1 : Int32)), .unset, .unset, .unset, .unset, .unset, .unset, .unset, .unset, .unset] [])) _
    refine XS.iloadN X0.here hx rfl (hb hby at_10) rfl ?_
    show Steps p.tables e below (s₁.setTop (mkF m 11 #[.val (.int p1), .val (.int p2), .val (.int p3), .val (.int p4), .val (.int p5), .val (.int (1 : Int32)), .unset, .unset, .unset, .unset, .unset, .unset, .unset, .unset, .unset] [(.int p2)])) _
    refine X0.ldcInt hx hown (mvT hZ (hw _ (List.mem_of_getElem? (i := 0) rfl))) (g := (mkF m 11 #[.val (.int p1), .val (.int p2), .val (.int p3), .val (.int p4), .val (.int p5), .val (.int (1 : Int32)), .unset, .unset, .unset, .unset, .unset, .unset, .unset, .unset, .unset] [(.int p2)])) rfl (hb hby at_11) _ ?_
    show Steps p.tables e below (s₁.setTop (mkF m 13 #[.val (.int p1), .val (.int p2), .val (.int p3), .val (.int p4), .val (.int p5), .val (.int (1 : Int32)), .unset, .unset, .unset, .unset, .unset, .unset, .unset, .unset, .unset] [(.int (2147483647 : Int32)), (.int p2)])) _
    refine XS.iand X0.here hx rfl (hb hby at_13) rfl ?_
    show Steps p.tables e below (s₁.setTop (mkF m 14 #[.val (.int p1), .val (.int p2), .val (.int p3), .val (.int p4), .val (.int p5), .val (.int (1 : Int32)), .unset, .unset, .unset, .unset, .unset, .unset, .unset, .unset, .unset] [(.int (p2 &&& (2147483647 : Int32)))])) _
    refine XS.iload X0.here hx rfl (hb hby at_14) rfl ?_
    show Steps p.tables e below (s₁.setTop (mkF m 16 #[.val (.int p1), .val (.int p2), .val (.int p3), .val (.int p4), .val (.int p5), .val (.int (1 : Int32)), .unset, .unset, .unset, .unset, .unset, .unset, .unset, .unset, .unset] [(.int (1 : Int32)), (.int (p2 &&& (2147483647 : Int32)))])) _
    refine iremM X0 hx rfl (hb hby at_16) rfl (by decide) ?_
    show Steps p.tables e below (s₁.setTop (mkF m 17 #[.val (.int p1), .val (.int p2), .val (.int p3), .val (.int p4), .val (.int p5), .val (.int (1 : Int32)), .unset, .unset, .unset, .unset, .unset, .unset, .unset, .unset, .unset] [(.int ((p2 &&& (2147483647 : Int32)) % (1 : Int32)))])) _
    refine XS.iconst X0.here hx rfl (hb hby at_17) ?_
    show Steps p.tables e below (s₁.setTop (mkF m 18 #[.val (.int p1), .val (.int p2), .val (.int p3), .val (.int p4), .val (.int p5), .val (.int (1 : Int32)), .unset, .unset, .unset, .unset, .unset, .unset, .unset, .unset, .unset] [(.int (1 : Int32)), (.int ((p2 &&& (2147483647 : Int32)) % (1 : Int32)))])) _
    refine XS.iadd X0.here hx rfl (hb hby at_18) rfl ?_
    show Steps p.tables e below (s₁.setTop (mkF m 19 #[.val (.int p1), .val (.int p2), .val (.int p3), .val (.int p4), .val (.int p5), .val (.int (1 : Int32)), .unset, .unset, .unset, .unset, .unset, .unset, .unset, .unset, .unset] [(.int (((p2 &&& (2147483647 : Int32)) % (1 : Int32)) + (1 : Int32)))])) _
    rw [hWk]
    show Steps p.tables e below (s₁.setTop (mkF m 19 #[.val (.int p1), .val (.int p2), .val (.int p3), .val (.int p4), .val (.int p5), .val (.int (1 : Int32)), .unset, .unset, .unset, .unset, .unset, .unset, .unset, .unset, .unset] [(.int wk)])) _
    refine XS.istore X0.here hx rfl (hb hby at_19) rfl (l' := #[.val (.int p1), .val (.int p2), .val (.int p3), .val (.int p4), .val (.int p5), .val (.int (1 : Int32)), .val (.int wk), .unset, .unset, .unset, .unset, .unset, .unset, .unset, .unset]) rfl ?_
    show Steps p.tables e below (s₁.setTop (mkF m 21 #[.val (.int p1), .val (.int p2), .val (.int p3), .val (.int p4), .val (.int p5), .val (.int (1 : Int32)), .val (.int wk), .unset, .unset, .unset, .unset, .unset, .unset, .unset, .unset] [])) _
    refine XS.iloadN X0.here hx rfl (hb hby at_21) rfl ?_
    show Steps p.tables e below (s₁.setTop (mkF m 22 #[.val (.int p1), .val (.int p2), .val (.int p3), .val (.int p4), .val (.int p5), .val (.int (1 : Int32)), .val (.int wk), .unset, .unset, .unset, .unset, .unset, .unset, .unset, .unset] [(.int p3)])) _
    refine X0.ldcInt hx hown (mvT hZ (hw _ (List.mem_of_getElem? (i := 0) rfl))) (g := (mkF m 22 #[.val (.int p1), .val (.int p2), .val (.int p3), .val (.int p4), .val (.int p5), .val (.int (1 : Int32)), .val (.int wk), .unset, .unset, .unset, .unset, .unset, .unset, .unset, .unset] [(.int p3)])) rfl (hb hby at_22) _ ?_
    show Steps p.tables e below (s₁.setTop (mkF m 24 #[.val (.int p1), .val (.int p2), .val (.int p3), .val (.int p4), .val (.int p5), .val (.int (1 : Int32)), .val (.int wk), .unset, .unset, .unset, .unset, .unset, .unset, .unset, .unset] [(.int (2147483647 : Int32)), (.int p3)])) _
    refine XS.iand X0.here hx rfl (hb hby at_24) rfl ?_
    show Steps p.tables e below (s₁.setTop (mkF m 25 #[.val (.int p1), .val (.int p2), .val (.int p3), .val (.int p4), .val (.int p5), .val (.int (1 : Int32)), .val (.int wk), .unset, .unset, .unset, .unset, .unset, .unset, .unset, .unset] [(.int (p3 &&& (2147483647 : Int32)))])) _
    refine XS.iload X0.here hx rfl (hb hby at_25) rfl ?_
    show Steps p.tables e below (s₁.setTop (mkF m 27 #[.val (.int p1), .val (.int p2), .val (.int p3), .val (.int p4), .val (.int p5), .val (.int (1 : Int32)), .val (.int wk), .unset, .unset, .unset, .unset, .unset, .unset, .unset, .unset] [(.int wk), (.int (p3 &&& (2147483647 : Int32)))])) _
    refine iremM X0 hx rfl (hb hby at_27) rfl (own_ne0 hw0) ?_
    show Steps p.tables e below (s₁.setTop (mkF m 28 #[.val (.int p1), .val (.int p2), .val (.int p3), .val (.int p4), .val (.int p5), .val (.int (1 : Int32)), .val (.int wk), .unset, .unset, .unset, .unset, .unset, .unset, .unset, .unset] [(.int ((p3 &&& (2147483647 : Int32)) % wk))])) _
    rw [hE0]
    show Steps p.tables e below (s₁.setTop (mkF m 28 #[.val (.int p1), .val (.int p2), .val (.int p3), .val (.int p4), .val (.int p5), .val (.int (1 : Int32)), .val (.int wk), .unset, .unset, .unset, .unset, .unset, .unset, .unset, .unset] [(.int e_0)])) _
    refine XS.istore X0.here hx rfl (hb hby at_28) rfl (l' := #[.val (.int p1), .val (.int p2), .val (.int p3), .val (.int p4), .val (.int p5), .val (.int (1 : Int32)), .val (.int wk), .val (.int e_0), .unset, .unset, .unset, .unset, .unset, .unset, .unset]) rfl ?_
    show Steps p.tables e below (s₁.setTop (mkF m 30 #[.val (.int p1), .val (.int p2), .val (.int p3), .val (.int p4), .val (.int p5), .val (.int (1 : Int32)), .val (.int wk), .val (.int e_0), .unset, .unset, .unset, .unset, .unset, .unset, .unset] [])) _
    refine XS.iloadN X0.here hx rfl (hb hby at_30) rfl ?_
    show Steps p.tables e below (s₁.setTop (mkF m 31 #[.val (.int p1), .val (.int p2), .val (.int p3), .val (.int p4), .val (.int p5), .val (.int (1 : Int32)), .val (.int wk), .val (.int e_0), .unset, .unset, .unset, .unset, .unset, .unset, .unset] [(.int p4)])) _
    refine X0.ldcInt hx hown (mvT hZ (hw _ (List.mem_of_getElem? (i := 0) rfl))) (g := (mkF m 31 #[.val (.int p1), .val (.int p2), .val (.int p3), .val (.int p4), .val (.int p5), .val (.int (1 : Int32)), .val (.int wk), .val (.int e_0), .unset, .unset, .unset, .unset, .unset, .unset, .unset] [(.int p4)])) rfl (hb hby at_31) _ ?_
    show Steps p.tables e below (s₁.setTop (mkF m 33 #[.val (.int p1), .val (.int p2), .val (.int p3), .val (.int p4), .val (.int p5), .val (.int (1 : Int32)), .val (.int wk), .val (.int e_0), .unset, .unset, .unset, .unset, .unset, .unset, .unset] [(.int (2147483647 : Int32)), (.int p4)])) _
    refine XS.iand X0.here hx rfl (hb hby at_33) rfl ?_
    show Steps p.tables e below (s₁.setTop (mkF m 34 #[.val (.int p1), .val (.int p2), .val (.int p3), .val (.int p4), .val (.int p5), .val (.int (1 : Int32)), .val (.int wk), .val (.int e_0), .unset, .unset, .unset, .unset, .unset, .unset, .unset] [(.int (p4 &&& (2147483647 : Int32)))])) _
    refine XS.iload X0.here hx rfl (hb hby at_34) rfl ?_
    show Steps p.tables e below (s₁.setTop (mkF m 36 #[.val (.int p1), .val (.int p2), .val (.int p3), .val (.int p4), .val (.int p5), .val (.int (1 : Int32)), .val (.int wk), .val (.int e_0), .unset, .unset, .unset, .unset, .unset, .unset, .unset] [(.int wk), (.int (p4 &&& (2147483647 : Int32)))])) _
    refine iremM X0 hx rfl (hb hby at_36) rfl (own_ne0 hw0) ?_
    show Steps p.tables e below (s₁.setTop (mkF m 37 #[.val (.int p1), .val (.int p2), .val (.int p3), .val (.int p4), .val (.int p5), .val (.int (1 : Int32)), .val (.int wk), .val (.int e_0), .unset, .unset, .unset, .unset, .unset, .unset, .unset] [(.int ((p4 &&& (2147483647 : Int32)) % wk))])) _
    rw [hE1]
    show Steps p.tables e below (s₁.setTop (mkF m 37 #[.val (.int p1), .val (.int p2), .val (.int p3), .val (.int p4), .val (.int p5), .val (.int (1 : Int32)), .val (.int wk), .val (.int e_0), .unset, .unset, .unset, .unset, .unset, .unset, .unset] [(.int e_1)])) _
    refine XS.istore X0.here hx rfl (hb hby at_37) rfl (l' := #[.val (.int p1), .val (.int p2), .val (.int p3), .val (.int p4), .val (.int p5), .val (.int (1 : Int32)), .val (.int wk), .val (.int e_0), .val (.int e_1), .unset, .unset, .unset, .unset, .unset, .unset]) rfl ?_
    show Steps p.tables e below (s₁.setTop (mkF m 39 #[.val (.int p1), .val (.int p2), .val (.int p3), .val (.int p4), .val (.int p5), .val (.int (1 : Int32)), .val (.int wk), .val (.int e_0), .val (.int e_1), .unset, .unset, .unset, .unset, .unset, .unset] [])) _
    refine XS.iload X0.here hx rfl (hb hby at_39) rfl ?_
    show Steps p.tables e below (s₁.setTop (mkF m 41 #[.val (.int p1), .val (.int p2), .val (.int p3), .val (.int p4), .val (.int p5), .val (.int (1 : Int32)), .val (.int wk), .val (.int e_0), .val (.int e_1), .unset, .unset, .unset, .unset, .unset, .unset] [(.int p5)])) _
    refine X0.ldcInt hx hown (mvT hZ (hw _ (List.mem_of_getElem? (i := 0) rfl))) (g := (mkF m 41 #[.val (.int p1), .val (.int p2), .val (.int p3), .val (.int p4), .val (.int p5), .val (.int (1 : Int32)), .val (.int wk), .val (.int e_0), .val (.int e_1), .unset, .unset, .unset, .unset, .unset, .unset] [(.int p5)])) rfl (hb hby at_41) _ ?_
    show Steps p.tables e below (s₁.setTop (mkF m 43 #[.val (.int p1), .val (.int p2), .val (.int p3), .val (.int p4), .val (.int p5), .val (.int (1 : Int32)), .val (.int wk), .val (.int e_0), .val (.int e_1), .unset, .unset, .unset, .unset, .unset, .unset] [(.int (2147483647 : Int32)), (.int p5)])) _
    refine XS.iand X0.here hx rfl (hb hby at_43) rfl ?_
    show Steps p.tables e below (s₁.setTop (mkF m 44 #[.val (.int p1), .val (.int p2), .val (.int p3), .val (.int p4), .val (.int p5), .val (.int (1 : Int32)), .val (.int wk), .val (.int e_0), .val (.int e_1), .unset, .unset, .unset, .unset, .unset, .unset] [(.int (p5 &&& (2147483647 : Int32)))])) _
    refine XS.iload X0.here hx rfl (hb hby at_44) rfl ?_
    show Steps p.tables e below (s₁.setTop (mkF m 46 #[.val (.int p1), .val (.int p2), .val (.int p3), .val (.int p4), .val (.int p5), .val (.int (1 : Int32)), .val (.int wk), .val (.int e_0), .val (.int e_1), .unset, .unset, .unset, .unset, .unset, .unset] [(.int wk), (.int (p5 &&& (2147483647 : Int32)))])) _
    refine iremM X0 hx rfl (hb hby at_46) rfl (own_ne0 hw0) ?_
    show Steps p.tables e below (s₁.setTop (mkF m 47 #[.val (.int p1), .val (.int p2), .val (.int p3), .val (.int p4), .val (.int p5), .val (.int (1 : Int32)), .val (.int wk), .val (.int e_0), .val (.int e_1), .unset, .unset, .unset, .unset, .unset, .unset] [(.int ((p5 &&& (2147483647 : Int32)) % wk))])) _
    rw [hE2]
    show Steps p.tables e below (s₁.setTop (mkF m 47 #[.val (.int p1), .val (.int p2), .val (.int p3), .val (.int p4), .val (.int p5), .val (.int (1 : Int32)), .val (.int wk), .val (.int e_0), .val (.int e_1), .unset, .unset, .unset, .unset, .unset, .unset] [(.int e_2)])) _
    refine XS.istore X0.here hx rfl (hb hby at_47) rfl (l' := #[.val (.int p1), .val (.int p2), .val (.int p3), .val (.int p4), .val (.int p5), .val (.int (1 : Int32)), .val (.int wk), .val (.int e_0), .val (.int e_1), .val (.int e_2), .unset, .unset, .unset, .unset, .unset]) rfl ?_
    show Steps p.tables e below (s₁.setTop (mkF m 49 #[.val (.int p1), .val (.int p2), .val (.int p3), .val (.int p4), .val (.int p5), .val (.int (1 : Int32)), .val (.int wk), .val (.int e_0), .val (.int e_1), .val (.int e_2), .unset, .unset, .unset, .unset, .unset] [])) _
    refine XS.iconst X0.here hx rfl (hb hby at_49) ?_
    show Steps p.tables e below (s₁.setTop (mkF m 50 #[.val (.int p1), .val (.int p2), .val (.int p3), .val (.int p4), .val (.int p5), .val (.int (1 : Int32)), .val (.int wk), .val (.int e_0), .val (.int e_1), .val (.int e_2), .unset, .unset, .unset, .unset, .unset] [(.int (1 : Int32))])) _
    refine st6 _ ?_
    show Steps p.tables e below (T6.setTop (mkF m 52 #[.val (.int p1), .val (.int p2), .val (.int p3), .val (.int p4), .val (.int p5), .val (.int (1 : Int32)), .val (.int wk), .val (.int e_0), .val (.int e_1), .val (.int e_2), .unset, .unset, .unset, .unset, .unset] [(.ref b6)])) _
    refine XS.astore X6.here hx rfl (hb hby at_52) rfl rfl (l' := #[.val (.int p1), .val (.int p2), .val (.int p3), .val (.int p4), .val (.int p5), .val (.int (1 : Int32)), .val (.int wk), .val (.int e_0), .val (.int e_1), .val (.int e_2), .val (.ref b6), .unset, .unset, .unset, .unset]) rfl ?_
    show Steps p.tables e below (T6.setTop (mkF m 54 #[.val (.int p1), .val (.int p2), .val (.int p3), .val (.int p4), .val (.int p5), .val (.int (1 : Int32)), .val (.int wk), .val (.int e_0), .val (.int e_1), .val (.int e_2), .val (.ref b6), .unset, .unset, .unset, .unset] [])) _
    refine XS.iconst X6.here hx rfl (hb hby at_54) ?_
    show Steps p.tables e below (T6.setTop (mkF m 55 #[.val (.int p1), .val (.int p2), .val (.int p3), .val (.int p4), .val (.int p5), .val (.int (1 : Int32)), .val (.int wk), .val (.int e_0), .val (.int e_1), .val (.int e_2), .val (.ref b6), .unset, .unset, .unset, .unset] [(.int (2 : Int32))])) _
    refine st7 _ ?_
    show Steps p.tables e below (T7.setTop (mkF m 57 #[.val (.int p1), .val (.int p2), .val (.int p3), .val (.int p4), .val (.int p5), .val (.int (1 : Int32)), .val (.int wk), .val (.int e_0), .val (.int e_1), .val (.int e_2), .val (.ref b6), .unset, .unset, .unset, .unset] [(.ref b7)])) _
    refine XS.astore X7.here hx rfl (hb hby at_57) rfl rfl (l' := #[.val (.int p1), .val (.int p2), .val (.int p3), .val (.int p4), .val (.int p5), .val (.int (1 : Int32)), .val (.int wk), .val (.int e_0), .val (.int e_1), .val (.int e_2), .val (.ref b6), .val (.ref b7), .unset, .unset, .unset]) rfl ?_
    show Steps p.tables e below (T7.setTop (mkF m 59 #[.val (.int p1), .val (.int p2), .val (.int p3), .val (.int p4), .val (.int p5), .val (.int (1 : Int32)), .val (.int wk), .val (.int e_0), .val (.int e_1), .val (.int e_2), .val (.ref b6), .val (.ref b7), .unset, .unset, .unset] [])) _
    refine XS.iconst X7.here hx rfl (hb hby at_59) ?_
    show Steps p.tables e below (T7.setTop (mkF m 60 #[.val (.int p1), .val (.int p2), .val (.int p3), .val (.int p4), .val (.int p5), .val (.int (1 : Int32)), .val (.int wk), .val (.int e_0), .val (.int e_1), .val (.int e_2), .val (.ref b6), .val (.ref b7), .unset, .unset, .unset] [(.int (3 : Int32))])) _
    refine st8 _ ?_
    show Steps p.tables e below (T8.setTop (mkF m 62 #[.val (.int p1), .val (.int p2), .val (.int p3), .val (.int p4), .val (.int p5), .val (.int (1 : Int32)), .val (.int wk), .val (.int e_0), .val (.int e_1), .val (.int e_2), .val (.ref b6), .val (.ref b7), .unset, .unset, .unset] [(.ref b8)])) _
    refine XS.astore X8.here hx rfl (hb hby at_62) rfl rfl (l' := #[.val (.int p1), .val (.int p2), .val (.int p3), .val (.int p4), .val (.int p5), .val (.int (1 : Int32)), .val (.int wk), .val (.int e_0), .val (.int e_1), .val (.int e_2), .val (.ref b6), .val (.ref b7), .val (.ref b8), .unset, .unset]) rfl ?_
    show Steps p.tables e below (T8.setTop (mkF m 64 #[.val (.int p1), .val (.int p2), .val (.int p3), .val (.int p4), .val (.int p5), .val (.int (1 : Int32)), .val (.int wk), .val (.int e_0), .val (.int e_1), .val (.int e_2), .val (.ref b6), .val (.ref b7), .val (.ref b8), .unset, .unset] [])) _
    refine XS.aload X8.here hx rfl (hb hby at_64) rfl rfl ?_
    show Steps p.tables e below (T8.setTop (mkF m 66 #[.val (.int p1), .val (.int p2), .val (.int p3), .val (.int p4), .val (.int p5), .val (.int (1 : Int32)), .val (.int wk), .val (.int e_0), .val (.int e_1), .val (.int e_2), .val (.ref b6), .val (.ref b7), .val (.ref b8), .unset, .unset] [(.ref b6)])) _
    refine XS.iconst X8.here hx rfl (hb hby at_66) ?_
    show Steps p.tables e below (T8.setTop (mkF m 67 #[.val (.int p1), .val (.int p2), .val (.int p3), .val (.int p4), .val (.int p5), .val (.int (1 : Int32)), .val (.int wk), .val (.int e_0), .val (.int e_1), .val (.int e_2), .val (.ref b6), .val (.ref b7), .val (.ref b8), .unset, .unset] [(.int (0 : Int32)), (.ref b6)])) _
    refine XS.iload X8.here hx rfl (hb hby at_67) rfl ?_
    show Steps p.tables e below (T8.setTop (mkF m 69 #[.val (.int p1), .val (.int p2), .val (.int p3), .val (.int p4), .val (.int p5), .val (.int (1 : Int32)), .val (.int wk), .val (.int e_0), .val (.int e_1), .val (.int e_2), .val (.ref b6), .val (.ref b7), .val (.ref b8), .unset, .unset] [(.int e_0), (.int (0 : Int32)), (.ref b6)])) _
    refine st9 _ ?_
    show Steps p.tables e below (T9.setTop (mkF m 70 #[.val (.int p1), .val (.int p2), .val (.int p3), .val (.int p4), .val (.int p5), .val (.int (1 : Int32)), .val (.int wk), .val (.int e_0), .val (.int e_1), .val (.int e_2), .val (.ref b6), .val (.ref b7), .val (.ref b8), .unset, .unset] [])) _
    refine XS.aload X9.here hx rfl (hb hby at_70) rfl rfl ?_
    show Steps p.tables e below (T9.setTop (mkF m 72 #[.val (.int p1), .val (.int p2), .val (.int p3), .val (.int p4), .val (.int p5), .val (.int (1 : Int32)), .val (.int wk), .val (.int e_0), .val (.int e_1), .val (.int e_2), .val (.ref b6), .val (.ref b7), .val (.ref b8), .unset, .unset] [(.ref b7)])) _
    refine XS.iconst X9.here hx rfl (hb hby at_72) ?_
    show Steps p.tables e below (T9.setTop (mkF m 73 #[.val (.int p1), .val (.int p2), .val (.int p3), .val (.int p4), .val (.int p5), .val (.int (1 : Int32)), .val (.int wk), .val (.int e_0), .val (.int e_1), .val (.int e_2), .val (.ref b6), .val (.ref b7), .val (.ref b8), .unset, .unset] [(.int (0 : Int32)), (.ref b7)])) _
    refine XS.iload X9.here hx rfl (hb hby at_73) rfl ?_
    show Steps p.tables e below (T9.setTop (mkF m 75 #[.val (.int p1), .val (.int p2), .val (.int p3), .val (.int p4), .val (.int p5), .val (.int (1 : Int32)), .val (.int wk), .val (.int e_0), .val (.int e_1), .val (.int e_2), .val (.ref b6), .val (.ref b7), .val (.ref b8), .unset, .unset] [(.int e_0), (.int (0 : Int32)), (.ref b7)])) _
    refine st10 _ ?_
    show Steps p.tables e below (T10.setTop (mkF m 76 #[.val (.int p1), .val (.int p2), .val (.int p3), .val (.int p4), .val (.int p5), .val (.int (1 : Int32)), .val (.int wk), .val (.int e_0), .val (.int e_1), .val (.int e_2), .val (.ref b6), .val (.ref b7), .val (.ref b8), .unset, .unset] [])) _
    refine XS.aload X10.here hx rfl (hb hby at_76) rfl rfl ?_
    show Steps p.tables e below (T10.setTop (mkF m 78 #[.val (.int p1), .val (.int p2), .val (.int p3), .val (.int p4), .val (.int p5), .val (.int (1 : Int32)), .val (.int wk), .val (.int e_0), .val (.int e_1), .val (.int e_2), .val (.ref b6), .val (.ref b7), .val (.ref b8), .unset, .unset] [(.ref b7)])) _
    refine XS.iconst X10.here hx rfl (hb hby at_78) ?_
    show Steps p.tables e below (T10.setTop (mkF m 79 #[.val (.int p1), .val (.int p2), .val (.int p3), .val (.int p4), .val (.int p5), .val (.int (1 : Int32)), .val (.int wk), .val (.int e_0), .val (.int e_1), .val (.int e_2), .val (.ref b6), .val (.ref b7), .val (.ref b8), .unset, .unset] [(.int (1 : Int32)), (.ref b7)])) _
    refine XS.iload X10.here hx rfl (hb hby at_79) rfl ?_
    show Steps p.tables e below (T10.setTop (mkF m 81 #[.val (.int p1), .val (.int p2), .val (.int p3), .val (.int p4), .val (.int p5), .val (.int (1 : Int32)), .val (.int wk), .val (.int e_0), .val (.int e_1), .val (.int e_2), .val (.ref b6), .val (.ref b7), .val (.ref b8), .unset, .unset] [(.int e_1), (.int (1 : Int32)), (.ref b7)])) _
    refine st11 _ ?_
    show Steps p.tables e below (T11.setTop (mkF m 82 #[.val (.int p1), .val (.int p2), .val (.int p3), .val (.int p4), .val (.int p5), .val (.int (1 : Int32)), .val (.int wk), .val (.int e_0), .val (.int e_1), .val (.int e_2), .val (.ref b6), .val (.ref b7), .val (.ref b8), .unset, .unset] [])) _
    refine XS.aload X11.here hx rfl (hb hby at_82) rfl rfl ?_
    show Steps p.tables e below (T11.setTop (mkF m 84 #[.val (.int p1), .val (.int p2), .val (.int p3), .val (.int p4), .val (.int p5), .val (.int (1 : Int32)), .val (.int wk), .val (.int e_0), .val (.int e_1), .val (.int e_2), .val (.ref b6), .val (.ref b7), .val (.ref b8), .unset, .unset] [(.ref b8)])) _
    refine XS.iconst X11.here hx rfl (hb hby at_84) ?_
    show Steps p.tables e below (T11.setTop (mkF m 85 #[.val (.int p1), .val (.int p2), .val (.int p3), .val (.int p4), .val (.int p5), .val (.int (1 : Int32)), .val (.int wk), .val (.int e_0), .val (.int e_1), .val (.int e_2), .val (.ref b6), .val (.ref b7), .val (.ref b8), .unset, .unset] [(.int (0 : Int32)), (.ref b8)])) _
    refine XS.iload X11.here hx rfl (hb hby at_85) rfl ?_
    show Steps p.tables e below (T11.setTop (mkF m 87 #[.val (.int p1), .val (.int p2), .val (.int p3), .val (.int p4), .val (.int p5), .val (.int (1 : Int32)), .val (.int wk), .val (.int e_0), .val (.int e_1), .val (.int e_2), .val (.ref b6), .val (.ref b7), .val (.ref b8), .unset, .unset] [(.int e_0), (.int (0 : Int32)), (.ref b8)])) _
    refine st12 _ ?_
    show Steps p.tables e below (T12.setTop (mkF m 88 #[.val (.int p1), .val (.int p2), .val (.int p3), .val (.int p4), .val (.int p5), .val (.int (1 : Int32)), .val (.int wk), .val (.int e_0), .val (.int e_1), .val (.int e_2), .val (.ref b6), .val (.ref b7), .val (.ref b8), .unset, .unset] [])) _
    refine XS.aload X12.here hx rfl (hb hby at_88) rfl rfl ?_
    show Steps p.tables e below (T12.setTop (mkF m 90 #[.val (.int p1), .val (.int p2), .val (.int p3), .val (.int p4), .val (.int p5), .val (.int (1 : Int32)), .val (.int wk), .val (.int e_0), .val (.int e_1), .val (.int e_2), .val (.ref b6), .val (.ref b7), .val (.ref b8), .unset, .unset] [(.ref b8)])) _
    refine XS.iconst X12.here hx rfl (hb hby at_90) ?_
    show Steps p.tables e below (T12.setTop (mkF m 91 #[.val (.int p1), .val (.int p2), .val (.int p3), .val (.int p4), .val (.int p5), .val (.int (1 : Int32)), .val (.int wk), .val (.int e_0), .val (.int e_1), .val (.int e_2), .val (.ref b6), .val (.ref b7), .val (.ref b8), .unset, .unset] [(.int (1 : Int32)), (.ref b8)])) _
    refine XS.iload X12.here hx rfl (hb hby at_91) rfl ?_
    show Steps p.tables e below (T12.setTop (mkF m 93 #[.val (.int p1), .val (.int p2), .val (.int p3), .val (.int p4), .val (.int p5), .val (.int (1 : Int32)), .val (.int wk), .val (.int e_0), .val (.int e_1), .val (.int e_2), .val (.ref b6), .val (.ref b7), .val (.ref b8), .unset, .unset] [(.int e_1), (.int (1 : Int32)), (.ref b8)])) _
    refine st13 _ ?_
    show Steps p.tables e below (T13.setTop (mkF m 94 #[.val (.int p1), .val (.int p2), .val (.int p3), .val (.int p4), .val (.int p5), .val (.int (1 : Int32)), .val (.int wk), .val (.int e_0), .val (.int e_1), .val (.int e_2), .val (.ref b6), .val (.ref b7), .val (.ref b8), .unset, .unset] [])) _
    refine XS.aload X13.here hx rfl (hb hby at_94) rfl rfl ?_
    show Steps p.tables e below (T13.setTop (mkF m 96 #[.val (.int p1), .val (.int p2), .val (.int p3), .val (.int p4), .val (.int p5), .val (.int (1 : Int32)), .val (.int wk), .val (.int e_0), .val (.int e_1), .val (.int e_2), .val (.ref b6), .val (.ref b7), .val (.ref b8), .unset, .unset] [(.ref b8)])) _
    refine XS.iconst X13.here hx rfl (hb hby at_96) ?_
    show Steps p.tables e below (T13.setTop (mkF m 97 #[.val (.int p1), .val (.int p2), .val (.int p3), .val (.int p4), .val (.int p5), .val (.int (1 : Int32)), .val (.int wk), .val (.int e_0), .val (.int e_1), .val (.int e_2), .val (.ref b6), .val (.ref b7), .val (.ref b8), .unset, .unset] [(.int (2 : Int32)), (.ref b8)])) _
    refine XS.iload X13.here hx rfl (hb hby at_97) rfl ?_
    show Steps p.tables e below (T13.setTop (mkF m 99 #[.val (.int p1), .val (.int p2), .val (.int p3), .val (.int p4), .val (.int p5), .val (.int (1 : Int32)), .val (.int wk), .val (.int e_0), .val (.int e_1), .val (.int e_2), .val (.ref b6), .val (.ref b7), .val (.ref b8), .unset, .unset] [(.int e_2), (.int (2 : Int32)), (.ref b8)])) _
    refine st14 _ ?_
    show Steps p.tables e below (T14.setTop (mkF m 100 #[.val (.int p1), .val (.int p2), .val (.int p3), .val (.int p4), .val (.int p5), .val (.int (1 : Int32)), .val (.int wk), .val (.int e_0), .val (.int e_1), .val (.int e_2), .val (.ref b6), .val (.ref b7), .val (.ref b8), .unset, .unset] [])) _
    refine XS.iload X14.here hx rfl (hb hby at_100) rfl ?_
    show Steps p.tables e below (T14.setTop (mkF m 102 #[.val (.int p1), .val (.int p2), .val (.int p3), .val (.int p4), .val (.int p5), .val (.int (1 : Int32)), .val (.int wk), .val (.int e_0), .val (.int e_1), .val (.int e_2), .val (.ref b6), .val (.ref b7), .val (.ref b8), .unset, .unset] [(.int (1 : Int32))])) _
    refine XS.iconst X14.here hx rfl (hb hby at_102) ?_
    show Steps p.tables e below (T14.setTop (mkF m 103 #[.val (.int p1), .val (.int p2), .val (.int p3), .val (.int p4), .val (.int p5), .val (.int (1 : Int32)), .val (.int wk), .val (.int e_0), .val (.int e_1), .val (.int e_2), .val (.ref b6), .val (.ref b7), .val (.ref b8), .unset, .unset] [(.int (1 : Int32)), (.int (1 : Int32))])) _
    refine XS.icmpNo X14.here hx rfl (hb hby at_103) rfl (teq hc103).2 ?_
    show Steps p.tables e below (T14.setTop (mkF m 106 #[.val (.int p1), .val (.int p2), .val (.int p3), .val (.int p4), .val (.int p5), .val (.int (1 : Int32)), .val (.int wk), .val (.int e_0), .val (.int e_1), .val (.int e_2), .val (.ref b6), .val (.ref b7), .val (.ref b8), .unset, .unset] [])) _
    refine XS.aload X14.here hx rfl (hb hby at_106) rfl rfl ?_
    show Steps p.tables e below (T14.setTop (mkF m 108 #[.val (.int p1), .val (.int p2), .val (.int p3), .val (.int p4), .val (.int p5), .val (.int (1 : Int32)), .val (.int wk), .val (.int e_0), .val (.int e_1), .val (.int e_2), .val (.ref b6), .val (.ref b7), .val (.ref b8), .unset, .unset] [(.ref b6)])) _
    refine XS.goto X14.here hx rfl (pc0 := 108) (pc' := 124) rfl (hb hby at_108) (by decide) (by decide) ?_
    show Steps p.tables e below (T14.setTop (mkF m 124 #[.val (.int p1), .val (.int p2), .val (.int p3), .val (.int p4), .val (.int p5), .val (.int (1 : Int32)), .val (.int wk), .val (.int e_0), .val (.int e_1), .val (.int e_2), .val (.ref b6), .val (.ref b7), .val (.ref b8), .unset, .unset] [(.ref b6)])) _
    refine XS.astore X14.here hx rfl (hb hby at_124) rfl rfl (l' := #[.val (.int p1), .val (.int p2), .val (.int p3), .val (.int p4), .val (.int p5), .val (.int (1 : Int32)), .val (.int wk), .val (.int e_0), .val (.int e_1), .val (.int e_2), .val (.ref b6), .val (.ref b7), .val (.ref b8), .val (.ref b6), .unset]) rfl ?_
    show Steps p.tables e below (T14.setTop (mkF m 126 #[.val (.int p1), .val (.int p2), .val (.int p3), .val (.int p4), .val (.int p5), .val (.int (1 : Int32)), .val (.int wk), .val (.int e_0), .val (.int e_1), .val (.int e_2), .val (.ref b6), .val (.ref b7), .val (.ref b8), .val (.ref b6), .unset] [])) _
    refine XS.iload X14.here hx rfl (hb hby at_126) rfl ?_
    show Steps p.tables e below (T14.setTop (mkF m 128 #[.val (.int p1), .val (.int p2), .val (.int p3), .val (.int p4), .val (.int p5), .val (.int (1 : Int32)), .val (.int wk), .val (.int e_0), .val (.int e_1), .val (.int e_2), .val (.ref b6), .val (.ref b7), .val (.ref b8), .val (.ref b6), .unset] [(.int wk)])) _
    refine XS.aload X14.here hx rfl (hb hby at_128) rfl rfl ?_
    show Steps p.tables e below (T14.setTop (mkF m 130 #[.val (.int p1), .val (.int p2), .val (.int p3), .val (.int p4), .val (.int p5), .val (.int (1 : Int32)), .val (.int wk), .val (.int e_0), .val (.int e_1), .val (.int e_2), .val (.ref b6), .val (.ref b7), .val (.ref b8), .val (.ref b6), .unset] [(.ref b6), (.int wk)])) _
    refine st15 _ ?_
    show Steps p.tables e below (T15.setTop (mkF m 133 #[.val (.int p1), .val (.int p2), .val (.int p3), .val (.int p4), .val (.int p5), .val (.int (1 : Int32)), .val (.int wk), .val (.int e_0), .val (.int e_1), .val (.int e_2), .val (.ref b6), .val (.ref b7), .val (.ref b8), .val (.ref b6), .unset] [(.ref bp)])) _
    refine XS.astore X15.here hx rfl (hb hby at_133) rfl rfl (l' := #[.val (.int p1), .val (.int p2), .val (.int p3), .val (.int p4), .val (.int p5), .val (.int (1 : Int32)), .val (.int wk), .val (.int e_0), .val (.int e_1), .val (.int e_2), .val (.ref b6), .val (.ref b7), .val (.ref b8), .val (.ref b6), .val (.ref bp)]) rfl ?_
    show Steps p.tables e below (T15.setTop (mkF m 135 #[.val (.int p1), .val (.int p2), .val (.int p3), .val (.int p4), .val (.int p5), .val (.int (1 : Int32)), .val (.int wk), .val (.int e_0), .val (.int e_1), .val (.int e_2), .val (.ref b6), .val (.ref b7), .val (.ref b8), .val (.ref b6), .val (.ref bp)] [])) _
    refine XS.aload X15.here hx rfl (hb hby at_135) rfl rfl ?_
    show Steps p.tables e below (T15.setTop (mkF m 137 #[.val (.int p1), .val (.int p2), .val (.int p3), .val (.int p4), .val (.int p5), .val (.int (1 : Int32)), .val (.int wk), .val (.int e_0), .val (.int e_1), .val (.int e_2), .val (.ref b6), .val (.ref b7), .val (.ref b8), .val (.ref b6), .val (.ref bp)] [(.ref b6)])) _
    refine XS.iconst X15.here hx rfl (hb hby at_137) ?_
    show Steps p.tables e below (T15.setTop (mkF m 138 #[.val (.int p1), .val (.int p2), .val (.int p3), .val (.int p4), .val (.int p5), .val (.int (1 : Int32)), .val (.int wk), .val (.int e_0), .val (.int e_1), .val (.int e_2), .val (.ref b6), .val (.ref b7), .val (.ref b8), .val (.ref b6), .val (.ref bp)] [(.int (0 : Int32)), (.ref b6)])) _
    refine XS.iload X15.here hx rfl (hb hby at_138) rfl ?_
    show Steps p.tables e below (T15.setTop (mkF m 140 #[.val (.int p1), .val (.int p2), .val (.int p3), .val (.int p4), .val (.int p5), .val (.int (1 : Int32)), .val (.int wk), .val (.int e_0), .val (.int e_1), .val (.int e_2), .val (.ref b6), .val (.ref b7), .val (.ref b8), .val (.ref b6), .val (.ref bp)] [(.int wk), (.int (0 : Int32)), (.ref b6)])) _
    refine st16 _ ?_
    show Steps p.tables e below (T16.setTop (mkF m 141 #[.val (.int p1), .val (.int p2), .val (.int p3), .val (.int p4), .val (.int p5), .val (.int (1 : Int32)), .val (.int wk), .val (.int e_0), .val (.int e_1), .val (.int e_2), .val (.ref b6), .val (.ref b7), .val (.ref b8), .val (.ref b6), .val (.ref bp)] [])) _
    refine XS.aload X16.here hx rfl (hb hby at_141) rfl rfl ?_
    show Steps p.tables e below (T16.setTop (mkF m 143 #[.val (.int p1), .val (.int p2), .val (.int p3), .val (.int p4), .val (.int p5), .val (.int (1 : Int32)), .val (.int wk), .val (.int e_0), .val (.int e_1), .val (.int e_2), .val (.ref b6), .val (.ref b7), .val (.ref b8), .val (.ref b6), .val (.ref bp)] [(.ref bp)])) _
    refine st17.trans ?_
    show Steps p.tables e below (T17.setTop (mkF m 146 #[.val (.int p1), .val (.int p2), .val (.int p3), .val (.int p4), .val (.int p5), .val (.int (1 : Int32)), .val (.int wk), .val (.int e_0), .val (.int e_1), .val (.int e_2), .val (.ref b6), .val (.ref b7), .val (.ref b8), .val (.ref b6), .val (.ref bp)] [(.int (1 : Int32))])) _
    refine XS.iload X17.here hx rfl (hb hby at_146) rfl ?_
    show Steps p.tables e below (T17.setTop (mkF m 148 #[.val (.int p1), .val (.int p2), .val (.int p3), .val (.int p4), .val (.int p5), .val (.int (1 : Int32)), .val (.int wk), .val (.int e_0), .val (.int e_1), .val (.int e_2), .val (.ref b6), .val (.ref b7), .val (.ref b8), .val (.ref b6), .val (.ref bp)] [(.int (1 : Int32)), (.int (1 : Int32))])) _
    refine XS.icmpYes X17.here hx rfl (pc0 := 148) (pc' := 153) rfl (hb hby at_148) rfl (teq (rfl : (1 : Int32) = (1 : Int32))).1 (by decide) (by decide) ?_
    show Steps p.tables e below (T17.setTop (mkF m 153 #[.val (.int p1), .val (.int p2), .val (.int p3), .val (.int p4), .val (.int p5), .val (.int (1 : Int32)), .val (.int wk), .val (.int e_0), .val (.int e_1), .val (.int e_2), .val (.ref b6), .val (.ref b7), .val (.ref b8), .val (.ref b6), .val (.ref bp)] [])) _
    refine XS.aload X17.here hx rfl (hb hby at_153) rfl rfl ?_
    show Steps p.tables e below (T17.setTop (mkF m 155 #[.val (.int p1), .val (.int p2), .val (.int p3), .val (.int p4), .val (.int p5), .val (.int (1 : Int32)), .val (.int wk), .val (.int e_0), .val (.int e_1), .val (.int e_2), .val (.ref b6), .val (.ref b7), .val (.ref b8), .val (.ref b6), .val (.ref bp)] [(.ref bp)])) _
    refine st18.trans ?_
    show Steps p.tables e below (T18.setTop (mkF m 158 #[.val (.int p1), .val (.int p2), .val (.int p3), .val (.int p4), .val (.int p5), .val (.int (1 : Int32)), .val (.int wk), .val (.int e_0), .val (.int e_1), .val (.int e_2), .val (.ref b6), .val (.ref b7), .val (.ref b8), .val (.ref b6), .val (.ref bp)] [(.int wk)])) _
    refine XS.iload X18.here hx rfl (hb hby at_158) rfl ?_
    show Steps p.tables e below (T18.setTop (mkF m 160 #[.val (.int p1), .val (.int p2), .val (.int p3), .val (.int p4), .val (.int p5), .val (.int (1 : Int32)), .val (.int wk), .val (.int e_0), .val (.int e_1), .val (.int e_2), .val (.ref b6), .val (.ref b7), .val (.ref b8), .val (.ref b6), .val (.ref bp)] [(.int wk), (.int wk)])) _
    refine XS.icmpYes X18.here hx rfl (pc0 := 160) (pc' := 165) rfl (hb hby at_160) rfl (teq (rfl : wk = wk)).1 (by decide) (by decide) ?_
    show Steps p.tables e below (T18.setTop (mkF m 165 #[.val (.int p1), .val (.int p2), .val (.int p3), .val (.int p4), .val (.int p5), .val (.int (1 : Int32)), .val (.int wk), .val (.int e_0), .val (.int e_1), .val (.int e_2), .val (.ref b6), .val (.ref b7), .val (.ref b8), .val (.ref b6), .val (.ref bp)] [])) _
    refine XS.aload X18.here hx rfl (hb hby at_165) rfl rfl ?_
    show Steps p.tables e below (T18.setTop (mkF m 167 #[.val (.int p1), .val (.int p2), .val (.int p3), .val (.int p4), .val (.int p5), .val (.int (1 : Int32)), .val (.int wk), .val (.int e_0), .val (.int e_1), .val (.int e_2), .val (.ref b6), .val (.ref b7), .val (.ref b8), .val (.ref b6), .val (.ref bp)] [(.ref bp)])) _
    refine XS.iconst X18.here hx rfl (hb hby at_167) ?_
    show Steps p.tables e below (T18.setTop (mkF m 168 #[.val (.int p1), .val (.int p2), .val (.int p3), .val (.int p4), .val (.int p5), .val (.int (1 : Int32)), .val (.int wk), .val (.int e_0), .val (.int e_1), .val (.int e_2), .val (.ref b6), .val (.ref b7), .val (.ref b8), .val (.ref b6), .val (.ref bp)] [(.int (0 : Int32)), (.ref bp)])) _
    refine st19.trans ?_
    show Steps p.tables e below (T19.setTop (mkF m 171 #[.val (.int p1), .val (.int p2), .val (.int p3), .val (.int p4), .val (.int p5), .val (.int (1 : Int32)), .val (.int wk), .val (.int e_0), .val (.int e_1), .val (.int e_2), .val (.ref b6), .val (.ref b7), .val (.ref b8), .val (.ref b6), .val (.ref bp)] [(.int e_0)])) _
    refine XS.iload X19.here hx rfl (hb hby at_171) rfl ?_
    show Steps p.tables e below (T19.setTop (mkF m 173 #[.val (.int p1), .val (.int p2), .val (.int p3), .val (.int p4), .val (.int p5), .val (.int (1 : Int32)), .val (.int wk), .val (.int e_0), .val (.int e_1), .val (.int e_2), .val (.ref b6), .val (.ref b7), .val (.ref b8), .val (.ref b6), .val (.ref bp)] [(.int e_0), (.int e_0)])) _
    refine XS.icmpYes X19.here hx rfl (pc0 := 173) (pc' := 178) rfl (hb hby at_173) rfl (teq (rfl : e_0 = e_0)).1 (by decide) (by decide) ?_
    show Steps p.tables e below (T19.setTop (mkF m 178 #[.val (.int p1), .val (.int p2), .val (.int p3), .val (.int p4), .val (.int p5), .val (.int (1 : Int32)), .val (.int wk), .val (.int e_0), .val (.int e_1), .val (.int e_2), .val (.ref b6), .val (.ref b7), .val (.ref b8), .val (.ref b6), .val (.ref bp)] [])) _
    refine XS.iload X19.here hx rfl (hb hby at_178) rfl ?_
    show Steps p.tables e below (T19.setTop (mkF m 180 #[.val (.int p1), .val (.int p2), .val (.int p3), .val (.int p4), .val (.int p5), .val (.int (1 : Int32)), .val (.int wk), .val (.int e_0), .val (.int e_1), .val (.int e_2), .val (.ref b6), .val (.ref b7), .val (.ref b8), .val (.ref b6), .val (.ref bp)] [(.int (1 : Int32))])) _
    refine XS.iconst X19.here hx rfl (hb hby at_180) ?_
    show Steps p.tables e below (T19.setTop (mkF m 181 #[.val (.int p1), .val (.int p2), .val (.int p3), .val (.int p4), .val (.int p5), .val (.int (1 : Int32)), .val (.int wk), .val (.int e_0), .val (.int e_1), .val (.int e_2), .val (.ref b6), .val (.ref b7), .val (.ref b8), .val (.ref b6), .val (.ref bp)] [(.int (2 : Int32)), (.int (1 : Int32))])) _
    refine XS.icmpYes X19.here hx rfl (pc0 := 181) (pc' := 197) rfl (hb hby at_181) rfl (tlt hc181).1 (by decide) (by decide) ?_
    show Steps p.tables e below (T19.setTop (mkF m 197 #[.val (.int p1), .val (.int p2), .val (.int p3), .val (.int p4), .val (.int p5), .val (.int (1 : Int32)), .val (.int wk), .val (.int e_0), .val (.int e_1), .val (.int e_2), .val (.ref b6), .val (.ref b7), .val (.ref b8), .val (.ref b6), .val (.ref bp)] [])) _
    refine XS.iload X19.here hx rfl (hb hby at_197) rfl ?_
    show Steps p.tables e below (T19.setTop (mkF m 199 #[.val (.int p1), .val (.int p2), .val (.int p3), .val (.int p4), .val (.int p5), .val (.int (1 : Int32)), .val (.int wk), .val (.int e_0), .val (.int e_1), .val (.int e_2), .val (.ref b6), .val (.ref b7), .val (.ref b8), .val (.ref b6), .val (.ref bp)] [(.int (1 : Int32))])) _
    refine XS.iconst X19.here hx rfl (hb hby at_199) ?_
    show Steps p.tables e below (T19.setTop (mkF m 200 #[.val (.int p1), .val (.int p2), .val (.int p3), .val (.int p4), .val (.int p5), .val (.int (1 : Int32)), .val (.int wk), .val (.int e_0), .val (.int e_1), .val (.int e_2), .val (.ref b6), .val (.ref b7), .val (.ref b8), .val (.ref b6), .val (.ref bp)] [(.int (3 : Int32)), (.int (1 : Int32))])) _
    refine XS.icmpYes X19.here hx rfl (pc0 := 200) (pc' := 216) rfl (hb hby at_200) rfl (tlt hc200).1 (by decide) (by decide) ?_
    show Steps p.tables e below (T19.setTop (mkF m 216 #[.val (.int p1), .val (.int p2), .val (.int p3), .val (.int p4), .val (.int p5), .val (.int (1 : Int32)), .val (.int wk), .val (.int e_0), .val (.int e_1), .val (.int e_2), .val (.ref b6), .val (.ref b7), .val (.ref b8), .val (.ref b6), .val (.ref bp)] [])) _
    refine XS.iconst X19.here hx rfl (hb hby at_216) ?_
    show Steps p.tables e below (T19.setTop (mkF m 217 #[.val (.int p1), .val (.int p2), .val (.int p3), .val (.int p4), .val (.int p5), .val (.int (1 : Int32)), .val (.int wk), .val (.int e_0), .val (.int e_1), .val (.int e_2), .val (.ref b6), .val (.ref b7), .val (.ref b8), .val (.ref b6), .val (.ref bp)] [(.int (1 : Int32))])) _
    exact retN X19 hx (t := .boolean) Bd.returns (by simp) (hb hby at_217) hr
  · show Q0 Z p1 p2 p3 p4 p5 h0 n0 _ T19.heap _
    exact ⟨rfl, N19⟩

set_option maxRecDepth 65536 in
set_option maxHeartbeats 40000000 in
theorem rm0_2 (l : Launch) (Z : State) (a0 : Array Value) (hw : ∀ d ∈ tables_1, d.before a0 Z = true) (ws : List Jvm.Cond) (p1 : Int32) (p2 : Int32) (p3 : Int32) (p4 : Int32) (p5 : Int32) (h0 : Heap) (n0 : Nat) (Z0 : n0 ≤ h0.size) (hL : (((p1 &&& (2147483647 : Int32)) % (3 : Int32)) + (1 : Int32)) = (2 : Int32)) (hc103 : ¬ ((2 : Int32) = (1 : Int32))) (hc114 : (2 : Int32) = (2 : Int32)) (hc181 : ¬ ((2 : Int32) < (2 : Int32))) (hc200 : (2 : Int32) < (3 : Int32)) :
    MetFree l x (head1 (Jvm.Cond.code x code maxLocals ret :: ws) room_1) (fun a U => a = #[(.int p1), (.int p2), (.int p3), (.int p4), (.int p5)] ∧ Z.Warmed39 U.vm ∧ U.heap = h0) (fun _ _ _ _ _ => True) (fun _ U o U' => ∃ v L, o = .returned v ∧ Q0 Z p1 p2 p3 p4 p5 h0 n0 v U'.heap L ∧ FrameEnd U o U' L room_1.cells room_1.slots) := by
  refine MetFree.of_bodySF (plainFor_of_name pn_0) hisR ?_
  intro p e s m args below meth c s₁ Bd hml0 hP hK
  obtain ⟨rfl, hZ, hh⟩ := hP
  have hx := Bd.exec
  have hby := Bd.bytes
  have hml : c.maxLocals = 15 := hml0
  have hown : s.vm.findClass "com/example/ballast/ballast/PlacementOfPinLaw" = some m.cls := findClass_of_methodNamed Bd.named
  have hnm := (name_of_methodNamed Bd.named Bd.method).1
  have X0 : Stand p l e room_1 s m #[(.int p1), (.int p2), (.int p3), (.int p4), (.int p5)] below meth c s₁ [] 0 0 := Stand.of_body Bd
  have e0 : s₁.heap = h0 := by rw [← hh, Bd.state]; rfl
  have N0 := Fr.nil n0
  have pre0 : ∀ t, Steps p.tables e below (s₁.setTop (mkF m 0 #[.val (.int p1), .val (.int p2), .val (.int p3), .val (.int p4), .val (.int p5), .unset, .unset, .unset, .unset, .unset, .unset, .unset, .unset, .unset, .unset] [])) t → Steps p.tables e below (s₁.setTop (entryFrame m #[(.int p1), (.int p2), (.int p3), (.int p4), (.int p5)] maxLocals)) t := fun t k => castTop (ef_0 m p1 p2 p3 p4 p5) k
  obtain ⟨wk, hWk, hw1, hw2, hw0⟩ := own_w p2 (2 : Int32) (by decide) (by decide)
  obtain ⟨e_0, hE0, hl0, hh0⟩ := own_e p3 wk hw0
  obtain ⟨e_1, hE1, hl1, hh1⟩ := own_e p4 wk hw0
  obtain ⟨e_2, hE2, hl2, hh2⟩ := own_e p5 wk hw0
  obtain ⟨T6, h6, k6, X6, e6, E6, A6, st6⟩ := newP X0 hx hZ (hw _ (List.mem_of_getElem? (i := 1) rfl)) e0 (g := (mkF m 50 #[.val (.int p1), .val (.int p2), .val (.int p3), .val (.int p4), .val (.int p5), .val (.int (2 : Int32)), .val (.int wk), .val (.int e_0), .val (.int e_1), .val (.int e_2), .unset, .unset, .unset, .unset, .unset] [(.int (1 : Int32))])) rfl (hb hby at_50) rfl (by decide) (cap := 1) (by decide) (by decide) (by decide) (by decide)
  obtain ⟨b6, g6⟩ : ∃ z, z = h0.size := ⟨_, rfl⟩
  rw [← g6] at A6 st6
  have V_b6 : Arv Z h6 b6 k6 .int (1 : Int32) [(.int (0 : Int32))] (.int (0 : Int32)) := (Arv.new A6 (by decide)).pad (pad_rep [] (.int (0 : Int32)) 1)
  have g_b6 : n0 ≤ b6 := Nat.le_trans Z0 (Nat.le_of_eq g6.symm)
  have sz_b6 : h0.size ≤ b6 := (Nat.le_trans (Keep.refl h0 []).1 (Nat.le_of_eq g6.symm))
  have K6 : Keep h0 h6 [] := (Keep.refl h0 []).ext E6
  obtain ⟨T7, h7, k7, X7, e7, E7, A7, B7, st7⟩ := newPE X6 hx hZ (hw _ (List.mem_of_getElem? (i := 1) rfl)) e6 (g := (mkF m 55 #[.val (.int p1), .val (.int p2), .val (.int p3), .val (.int p4), .val (.int p5), .val (.int (2 : Int32)), .val (.int wk), .val (.int e_0), .val (.int e_1), .val (.int e_2), .val (.ref b6), .unset, .unset, .unset, .unset] [(.int (2 : Int32))])) rfl (hb hby at_55) rfl (by decide) (cap := 2) (by decide) (by decide) (by decide) (by decide) (ad := "[I") rfl
  obtain ⟨b7, g7⟩ : ∃ z, z = h6.size := ⟨_, rfl⟩
  rw [← g7] at A7 B7 st7
  have V_b7 : Arv Z h7 b7 k7 .int (2 : Int32) [(.int (0 : Int32)), (.int (0 : Int32))] (.int (0 : Int32)) := (Arv.new A7 (by decide)).pad (pad_rep [] (.int (0 : Int32)) 2)
  have g_b7 : n0 ≤ b7 := Nat.le_trans (Nat.le_trans Z0 E6.1) (Nat.le_of_eq g7.symm)
  have sz_b7 : h0.size ≤ b7 := (Nat.le_trans K6.1 (Nat.le_of_eq g7.symm))
  have K7 : Keep h0 h7 [] := K6.ext E7
  obtain ⟨T8, h8, k8, X8, e8, E8, A8, st8⟩ := newP X7 hx hZ (hw _ (List.mem_of_getElem? (i := 1) rfl)) e7 (g := (mkF m 60 #[.val (.int p1), .val (.int p2), .val (.int p3), .val (.int p4), .val (.int p5), .val (.int (2 : Int32)), .val (.int wk), .val (.int e_0), .val (.int e_1), .val (.int e_2), .val (.ref b6), .val (.ref b7), .unset, .unset, .unset] [(.int (3 : Int32))])) rfl (hb hby at_60) rfl (by decide) (cap := 3) (by decide) (by decide) (by decide) (by decide)
  obtain ⟨b8, g8⟩ : ∃ z, z = h7.size := ⟨_, rfl⟩
  rw [← g8] at A8 st8
  have V_b8 : Arv Z h8 b8 k8 .int (3 : Int32) [(.int (0 : Int32)), (.int (0 : Int32)), (.int (0 : Int32))] (.int (0 : Int32)) := (Arv.new A8 (by decide)).pad (pad_rep [] (.int (0 : Int32)) 3)
  have g_b8 : n0 ≤ b8 := Nat.le_trans (Nat.le_trans (Nat.le_trans Z0 E6.1) E7.1) (Nat.le_of_eq g8.symm)
  have sz_b8 : h0.size ≤ b8 := (Nat.le_trans K7.1 (Nat.le_of_eq g8.symm))
  have K8 : Keep h0 h8 [] := K7.ext E8
  have ne67 : b6 ≠ b7 := Nat.ne_of_lt (by rw [g7]; exact V_b6.lt)
  have ne78 : b7 ≠ b8 := Nat.ne_of_lt (by rw [g8]; exact V_b7.lt)
  have ne68 : b6 ≠ b8 := Nat.ne_of_lt (by rw [g8]; exact (V_b6.ext E7).lt)
  obtain ⟨cl_b6_69, Ar_b6, q_b6, S_b6, N_b6, H_b6, G_b6⟩ := ((V_b6.ext E7).ext E8)
  have hin69 : ¬ ((0 : Int32) < 0 ∨ cl_b6_69.slots.size ≤ ((0 : Int32)).toNatClampNeg) := inb_of S_b6 ⟨by decide, by decide⟩
  obtain ⟨T9, h9, X9, e9, W9, st9⟩ := stI X8 hx hZ e8 Ar_b6 (j := (0 : Int32)) hin69 (g := (mkF m 69 #[.val (.int p1), .val (.int p2), .val (.int p3), .val (.int p4), .val (.int p5), .val (.int (2 : Int32)), .val (.int wk), .val (.int e_0), .val (.int e_1), .val (.int e_2), .val (.ref b6), .val (.ref b7), .val (.ref b8), .unset, .unset] [(.int e_0), (.int (0 : Int32)), (.ref b6)])) rfl rfl (hb hby at_69)
  have V_b6_9 := Arv.set Ar_b6 q_b6 S_b6 N_b6 H_b6 G_b6 rfl W9 0 rfl (Nat.le_of_ble_eq_true rfl)
  have K9 : Keep h0 h9 [] := K8.wr W9 (Or.inr sz_b6)
  have N9 := Fr.snoc X9 N0 g_b6
  obtain ⟨cl_b7_75, Ar_b7, q_b7, S_b7, N_b7, H_b7, G_b7⟩ := ((V_b7.ext E8).other W9 (Ne.symm ne67))
  have hin75 : ¬ ((0 : Int32) < 0 ∨ cl_b7_75.slots.size ≤ ((0 : Int32)).toNatClampNeg) := inb_of S_b7 ⟨by decide, by decide⟩
  obtain ⟨T10, h10, X10, e10, W10, st10⟩ := stI X9 hx hZ e9 Ar_b7 (j := (0 : Int32)) hin75 (g := (mkF m 75 #[.val (.int p1), .val (.int p2), .val (.int p3), .val (.int p4), .val (.int p5), .val (.int (2 : Int32)), .val (.int wk), .val (.int e_0), .val (.int e_1), .val (.int e_2), .val (.ref b6), .val (.ref b7), .val (.ref b8), .unset, .unset] [(.int e_0), (.int (0 : Int32)), (.ref b7)])) rfl rfl (hb hby at_75)
  have V_b7_10 := Arv.set Ar_b7 q_b7 S_b7 N_b7 H_b7 G_b7 rfl W10 0 rfl (Nat.le_of_ble_eq_true rfl)
  have K10 : Keep h0 h10 [] := K9.wr W10 (Or.inr sz_b7)
  have N10 := Fr.snoc X10 N9 g_b7
  obtain ⟨cl_b7_81, Ar_b7, q_b7, S_b7, N_b7, H_b7, G_b7⟩ := V_b7_10
  have hin81 : ¬ ((1 : Int32) < 0 ∨ cl_b7_81.slots.size ≤ ((1 : Int32)).toNatClampNeg) := inb_of S_b7 ⟨by decide, by decide⟩
  obtain ⟨T11, h11, X11, e11, W11, st11⟩ := stI X10 hx hZ e10 Ar_b7 (j := (1 : Int32)) hin81 (g := (mkF m 81 #[.val (.int p1), .val (.int p2), .val (.int p3), .val (.int p4), .val (.int p5), .val (.int (2 : Int32)), .val (.int wk), .val (.int e_0), .val (.int e_1), .val (.int e_2), .val (.ref b6), .val (.ref b7), .val (.ref b8), .unset, .unset] [(.int e_1), (.int (1 : Int32)), (.ref b7)])) rfl rfl (hb hby at_81)
  have V_b7_11 := Arv.set Ar_b7 q_b7 S_b7 N_b7 H_b7 G_b7 rfl W11 1 rfl (Nat.le_of_ble_eq_true rfl)
  have K11 : Keep h0 h11 [] := K10.wr W11 (Or.inr sz_b7)
  have N11 := Fr.snoc X11 N10 g_b7
  obtain ⟨cl_b8_87, Ar_b8, q_b8, S_b8, N_b8, H_b8, G_b8⟩ := (((V_b8.other W9 (Ne.symm ne68)).other W10 (Ne.symm ne78)).other W11 (Ne.symm ne78))
  have hin87 : ¬ ((0 : Int32) < 0 ∨ cl_b8_87.slots.size ≤ ((0 : Int32)).toNatClampNeg) := inb_of S_b8 ⟨by decide, by decide⟩
  obtain ⟨T12, h12, X12, e12, W12, st12⟩ := stI X11 hx hZ e11 Ar_b8 (j := (0 : Int32)) hin87 (g := (mkF m 87 #[.val (.int p1), .val (.int p2), .val (.int p3), .val (.int p4), .val (.int p5), .val (.int (2 : Int32)), .val (.int wk), .val (.int e_0), .val (.int e_1), .val (.int e_2), .val (.ref b6), .val (.ref b7), .val (.ref b8), .unset, .unset] [(.int e_0), (.int (0 : Int32)), (.ref b8)])) rfl rfl (hb hby at_87)
  have V_b8_12 := Arv.set Ar_b8 q_b8 S_b8 N_b8 H_b8 G_b8 rfl W12 0 rfl (Nat.le_of_ble_eq_true rfl)
  have K12 : Keep h0 h12 [] := K11.wr W12 (Or.inr sz_b8)
  have N12 := Fr.snoc X12 N11 g_b8
  obtain ⟨cl_b8_93, Ar_b8, q_b8, S_b8, N_b8, H_b8, G_b8⟩ := V_b8_12
  have hin93 : ¬ ((1 : Int32) < 0 ∨ cl_b8_93.slots.size ≤ ((1 : Int32)).toNatClampNeg) := inb_of S_b8 ⟨by decide, by decide⟩
  obtain ⟨T13, h13, X13, e13, W13, st13⟩ := stI X12 hx hZ e12 Ar_b8 (j := (1 : Int32)) hin93 (g := (mkF m 93 #[.val (.int p1), .val (.int p2), .val (.int p3), .val (.int p4), .val (.int p5), .val (.int (2 : Int32)), .val (.int wk), .val (.int e_0), .val (.int e_1), .val (.int e_2), .val (.ref b6), .val (.ref b7), .val (.ref b8), .unset, .unset] [(.int e_1), (.int (1 : Int32)), (.ref b8)])) rfl rfl (hb hby at_93)
  have V_b8_13 := Arv.set Ar_b8 q_b8 S_b8 N_b8 H_b8 G_b8 rfl W13 1 rfl (Nat.le_of_ble_eq_true rfl)
  have K13 : Keep h0 h13 [] := K12.wr W13 (Or.inr sz_b8)
  have N13 := Fr.snoc X13 N12 g_b8
  obtain ⟨cl_b8_99, Ar_b8, q_b8, S_b8, N_b8, H_b8, G_b8⟩ := V_b8_13
  have hin99 : ¬ ((2 : Int32) < 0 ∨ cl_b8_99.slots.size ≤ ((2 : Int32)).toNatClampNeg) := inb_of S_b8 ⟨by decide, by decide⟩
  obtain ⟨T14, h14, X14, e14, W14, st14⟩ := stI X13 hx hZ e13 Ar_b8 (j := (2 : Int32)) hin99 (g := (mkF m 99 #[.val (.int p1), .val (.int p2), .val (.int p3), .val (.int p4), .val (.int p5), .val (.int (2 : Int32)), .val (.int wk), .val (.int e_0), .val (.int e_1), .val (.int e_2), .val (.ref b6), .val (.ref b7), .val (.ref b8), .unset, .unset] [(.int e_2), (.int (2 : Int32)), (.ref b8)])) rfl rfl (hb hby at_99)
  have V_b8_14 := Arv.set Ar_b8 q_b8 S_b8 N_b8 H_b8 G_b8 rfl W14 2 rfl (Nat.le_of_ble_eq_true rfl)
  have K14 : Keep h0 h14 [] := K13.wr W14 (Or.inr sz_b8)
  have N14 := Fr.snoc X14 N13 g_b8
  have VN : Arv Z h14 b7 k7 .int (2 : Int32) [(.int e_0), (.int e_1)] (.int (0 : Int32)) := (((V_b7_11.other W12 ne78).other W13 ne78).other W14 ne78)
  have Z14 : n0 ≤ h14.size := Nat.le_trans Z0 K14.1
  obtain ⟨_, _, ⟨T15, L15, k15, n15⟩, -, X15, ⟨Lc15, hQ15, l15, y15, z15⟩, st15⟩ := Jvm.LawKit.callS X14 hx (y := (⟨"com/example/ballast/ballast/Placement", "of", "(I[I)Lcom/example/ballast/ballast/Placement;"⟩ : MethodName)) hown (mvT hZ (hw _ (List.mem_of_getElem? (i := 2) rfl))) (mvT hZ (hw _ (List.mem_of_getElem? (i := 3) rfl))) (mvT hZ (hw _ (List.mem_of_getElem? (i := 4) rfl))) (mvT hZ (hw _ (List.mem_of_getElem? (i := 5) rfl))) (by decide) (backOf (W := 0) (rm1_2 l Z a0 hw [] wk b7 _ e_0 e_1 h14 n0 Z14 VN (((((((B7.ext E8).wr W9).wr W10).wr W11).wr W12).wr W13).wr W14) hw1 hw2 hl0 hh0 hl1 hh1) hZ (hw _ (List.mem_of_getElem? (i := 5) rfl)) (hw _ (List.mem_of_getElem? (i := 4) rfl)) (by decide) (by decide)) (g := (mkF m 130 #[.val (.int p1), .val (.int p2), .val (.int p3), .val (.int p4), .val (.int p5), .val (.int (2 : Int32)), .val (.int wk), .val (.int e_0), .val (.int e_1), .val (.int e_2), .val (.ref b6), .val (.ref b7), .val (.ref b8), .val (.ref b7), .unset] [(.ref b7), (.int wk)])) rfl (by rw [hml]; rfl) (argsL := [(.int wk), (.ref b7)]) (rest := []) (lenOf pd_0_0 rfl) rfl (by show 2 * 0 + _ ≤ _; exact Nat.le_of_eq rfl) (hb hby at_130) (fun _ _ => ⟨rfl, e14, (by decide : 3 + 2 ≤ _), (by decide : 6 + 4 ≤ _)⟩)
  dsimp only [Pt.U, Pt.locs, Pt.cells, Pt.slots] at X15 l15 y15 z15 st15 hQ15
  subst l15 y15 z15
  obtain ⟨bp, bq, rfl, N15q, K15, gp, gq, Ep, Fw, Fo, Vq⟩ := hQ15
  have N15 := Fr.app N14 N15q
  obtain ⟨cl_b7_140, Ar_b7, q_b7, S_b7, N_b7, H_b7, G_b7⟩ := VN.keep K15 nin0
  have hin140 : ¬ ((0 : Int32) < 0 ∨ cl_b7_140.slots.size ≤ ((0 : Int32)).toNatClampNeg) := inb_of S_b7 ⟨by decide, by decide⟩
  obtain ⟨T16, h16, X16, e16, W16, st16⟩ := stI X15 hx hZ rfl Ar_b7 (j := (0 : Int32)) hin140 (g := (mkF m 140 #[.val (.int p1), .val (.int p2), .val (.int p3), .val (.int p4), .val (.int p5), .val (.int (2 : Int32)), .val (.int wk), .val (.int e_0), .val (.int e_1), .val (.int e_2), .val (.ref b6), .val (.ref b7), .val (.ref b8), .val (.ref b7), .val (.ref bp)] [(.int wk), (.int (0 : Int32)), (.ref b7)])) rfl rfl (hb hby at_140)
  have V_b7_16 := Arv.set Ar_b7 q_b7 S_b7 N_b7 H_b7 G_b7 rfl W16 0 rfl (Nat.le_of_ble_eq_true rfl)
  have K16 : Keep h0 h16 [] := (K14.trans K15 all0).wr W16 (Or.inr sz_b7)
  have N16 := Fr.snoc X16 N15 g_b7
  have nep : bp ≠ b7 := Nat.ne_of_gt (Nat.lt_of_lt_of_le VN.lt gp)
  have neq : bq ≠ b7 := Nat.ne_of_gt (Nat.lt_of_lt_of_le VN.lt gq)
  have Z16 : n0 ≤ h16.size := Nat.le_trans Z0 K16.1
  have Ep16 := Ep.wr W16
  have Fw16 := Fw.other W16 (Or.inl nep)
  have Fo16 := Fo.other W16 (Or.inl nep)
  obtain ⟨clq, Arq, qq, Sq, Nq, Hq, Gq⟩ := Vq.other W16 neq
  have hiq0 : ¬ ((0 : Int32) < 0 ∨ clq.slots.size ≤ ((0 : Int32)).toNatClampNeg) := inb_of Sq ⟨by decide, by decide⟩
  have haq0 : clq.slots[((0 : Int32)).toNatClampNeg]? = some (.int e_0) := Hq.at hiq0 rfl
  have hiq1 : ¬ ((1 : Int32) < 0 ∨ clq.slots.size ≤ ((1 : Int32)).toNatClampNeg) := inb_of Sq ⟨by decide, by decide⟩
  have haq1 : clq.slots[((1 : Int32)).toNatClampNeg]? = some (.int e_1) := Hq.at hiq1 rfl
  obtain ⟨cq17, kq17, q17a, q17b, q17c⟩ := isOf hZ e16 (Ep16)
  obtain ⟨_, _, ⟨T17, L17, k17, n17⟩, -, X17, ⟨Lc17, hQ17, l17, y17, z17⟩, st17⟩ := X16.virtualBack hx (y := (⟨"com/example/ballast/ballast/Placement", "partitions", "()I"⟩ : MethodName)) (z := (⟨"com/example/ballast/ballast/Placement", "partitions", "()I"⟩ : MethodName)) hown (mvT hZ (hw _ (List.mem_of_getElem? (i := 30) rfl))) (mvT hZ (hw _ (List.mem_of_getElem? (i := 31) rfl))) (notFace_of_selects (args := #[]) (mvT hZ (hw _ (List.mem_of_getElem? (i := 33) rfl)))) (mvT hZ (hw _ (List.mem_of_getElem? (i := 33) rfl))) (mvT hZ (hw _ (List.mem_of_getElem? (i := 32) rfl))) (by decide) (backOf (W := 0) (rm5 l Z a0 hw [] bp bq clq (2 : Int32) h16 n0 Z16 Fo16 Arq Sq Nq) hZ (hw _ (List.mem_of_getElem? (i := 34) rfl)) (hw _ (List.mem_of_getElem? (i := 4) rfl)) (by decide) (by decide)) q17a q17c (g := (mkF m 143 #[.val (.int p1), .val (.int p2), .val (.int p3), .val (.int p4), .val (.int p5), .val (.int (2 : Int32)), .val (.int wk), .val (.int e_0), .val (.int e_1), .val (.int e_2), .val (.ref b6), .val (.ref b7), .val (.ref b8), .val (.ref b7), .val (.ref bp)] [(.ref bp)])) rfl (by rw [hml]; rfl) (Steps.refl _) (argsL := []) (rest := []) (lenOf pd_0_5 rfl) rfl (by show 2 * 0 + _ ≤ _; exact Nat.le_of_eq rfl) (hb hby at_143) (fun _ _ => ⟨rfl, e16, (by decide : 5 + 0 ≤ _), (by decide : 10 + 0 ≤ _)⟩)
  dsimp only [Pt.U, Pt.locs, Pt.cells, Pt.slots] at X17 l17 y17 z17 st17 hQ17
  subst l17 y17 z17
  obtain ⟨rfl, N17q, e17⟩ := hQ17
  have N17 := Fr.app N16 N17q
  obtain ⟨cq18, kq18, q18a, q18b, q18c⟩ := isOf hZ e17 (Ep16)
  obtain ⟨_, _, ⟨T18, L18, k18, n18⟩, -, X18, ⟨Lc18, hQ18, l18, y18, z18⟩, st18⟩ := X17.virtualBack hx (y := (⟨"com/example/ballast/ballast/Placement", "workers", "()I"⟩ : MethodName)) (z := (⟨"com/example/ballast/ballast/Placement", "workers", "()I"⟩ : MethodName)) hown (mvT hZ (hw _ (List.mem_of_getElem? (i := 35) rfl))) (mvT hZ (hw _ (List.mem_of_getElem? (i := 36) rfl))) (notFace_of_selects (args := #[]) (mvT hZ (hw _ (List.mem_of_getElem? (i := 38) rfl)))) (mvT hZ (hw _ (List.mem_of_getElem? (i := 38) rfl))) (mvT hZ (hw _ (List.mem_of_getElem? (i := 37) rfl))) (by decide) (backOf (W := 0) (rm6 l Z a0 hw [] bp wk h16 n0 Z16 Fw16) hZ (hw _ (List.mem_of_getElem? (i := 39) rfl)) (hw _ (List.mem_of_getElem? (i := 4) rfl)) (by decide) (by decide)) q18a q18c (g := (mkF m 155 #[.val (.int p1), .val (.int p2), .val (.int p3), .val (.int p4), .val (.int p5), .val (.int (2 : Int32)), .val (.int wk), .val (.int e_0), .val (.int e_1), .val (.int e_2), .val (.ref b6), .val (.ref b7), .val (.ref b8), .val (.ref b7), .val (.ref bp)] [(.ref bp)])) rfl (by rw [hml]; rfl) (Steps.refl _) (argsL := []) (rest := []) (lenOf pd_0_5 rfl) rfl (by show 2 * 0 + _ ≤ _; exact Nat.le_of_eq rfl) (hb hby at_155) (fun _ _ => ⟨rfl, e17, (by decide : 5 + 0 ≤ _), (by decide : 10 + 0 ≤ _)⟩)
  dsimp only [Pt.U, Pt.locs, Pt.cells, Pt.slots] at X18 l18 y18 z18 st18 hQ18
  subst l18 y18 z18
  obtain ⟨rfl, N18q, e18⟩ := hQ18
  have N18 := Fr.app N17 N18q
  obtain ⟨cq19, kq19, q19a, q19b, q19c⟩ := isOf hZ e18 (Ep16)
  obtain ⟨_, _, ⟨T19, L19, k19, n19⟩, -, X19, ⟨Lc19, hQ19, l19, y19, z19⟩, st19⟩ := X18.virtualBack hx (y := (⟨"com/example/ballast/ballast/Placement", "workerOf", "(I)I"⟩ : MethodName)) (z := (⟨"com/example/ballast/ballast/Placement", "workerOf", "(I)I"⟩ : MethodName)) hown (mvT hZ (hw _ (List.mem_of_getElem? (i := 40) rfl))) (mvT hZ (hw _ (List.mem_of_getElem? (i := 41) rfl))) (notFace_of_selects (args := #[]) (mvT hZ (hw _ (List.mem_of_getElem? (i := 43) rfl)))) (mvT hZ (hw _ (List.mem_of_getElem? (i := 43) rfl))) (mvT hZ (hw _ (List.mem_of_getElem? (i := 42) rfl))) (by decide) (backOf (W := 0) (rm7 l Z a0 hw [] bp (0 : Int32) bq e_0 clq h16 n0 Z16 Fo16 Arq hiq0 haq0) hZ (hw _ (List.mem_of_getElem? (i := 44) rfl)) (hw _ (List.mem_of_getElem? (i := 4) rfl)) (by decide) (by decide)) q19a q19c (g := (mkF m 168 #[.val (.int p1), .val (.int p2), .val (.int p3), .val (.int p4), .val (.int p5), .val (.int (2 : Int32)), .val (.int wk), .val (.int e_0), .val (.int e_1), .val (.int e_2), .val (.ref b6), .val (.ref b7), .val (.ref b8), .val (.ref b7), .val (.ref bp)] [(.int (0 : Int32)), (.ref bp)])) rfl (by rw [hml]; rfl) (Steps.refl _) (argsL := [(.int (0 : Int32))]) (rest := []) (lenOf pd_0_6 rfl) rfl (by show 2 * 0 + _ ≤ _; exact Nat.le_of_eq rfl) (hb hby at_168) (fun _ _ => ⟨rfl, e18, (by decide : 5 + 0 ≤ _), (by decide : 10 + 0 ≤ _)⟩)
  dsimp only [Pt.U, Pt.locs, Pt.cells, Pt.slots] at X19 l19 y19 z19 st19 hQ19
  subst l19 y19 z19
  obtain ⟨rfl, N19q, e19⟩ := hQ19
  have N19 := Fr.app N18 N19q
  obtain ⟨cq20, kq20, q20a, q20b, q20c⟩ := isOf hZ e19 (Ep16)
  obtain ⟨_, _, ⟨T20, L20, k20, n20⟩, -, X20, ⟨Lc20, hQ20, l20, y20, z20⟩, st20⟩ := X19.virtualBack hx (y := (⟨"com/example/ballast/ballast/Placement", "workerOf", "(I)I"⟩ : MethodName)) (z := (⟨"com/example/ballast/ballast/Placement", "workerOf", "(I)I"⟩ : MethodName)) hown (mvT hZ (hw _ (List.mem_of_getElem? (i := 40) rfl))) (mvT hZ (hw _ (List.mem_of_getElem? (i := 41) rfl))) (notFace_of_selects (args := #[]) (mvT hZ (hw _ (List.mem_of_getElem? (i := 43) rfl)))) (mvT hZ (hw _ (List.mem_of_getElem? (i := 43) rfl))) (mvT hZ (hw _ (List.mem_of_getElem? (i := 42) rfl))) (by decide) (backOf (W := 0) (rm7 l Z a0 hw [] bp (1 : Int32) bq e_1 clq h16 n0 Z16 Fo16 Arq hiq1 haq1) hZ (hw _ (List.mem_of_getElem? (i := 44) rfl)) (hw _ (List.mem_of_getElem? (i := 4) rfl)) (by decide) (by decide)) q20a q20c (g := (mkF m 187 #[.val (.int p1), .val (.int p2), .val (.int p3), .val (.int p4), .val (.int p5), .val (.int (2 : Int32)), .val (.int wk), .val (.int e_0), .val (.int e_1), .val (.int e_2), .val (.ref b6), .val (.ref b7), .val (.ref b8), .val (.ref b7), .val (.ref bp)] [(.int (1 : Int32)), (.ref bp)])) rfl (by rw [hml]; rfl) (Steps.refl _) (argsL := [(.int (1 : Int32))]) (rest := []) (lenOf pd_0_6 rfl) rfl (by show 2 * 0 + _ ≤ _; exact Nat.le_of_eq rfl) (hb hby at_187) (fun _ _ => ⟨rfl, e19, (by decide : 5 + 0 ≤ _), (by decide : 10 + 0 ≤ _)⟩)
  dsimp only [Pt.U, Pt.locs, Pt.cells, Pt.slots] at X20 l20 y20 z20 st20 hQ20
  subst l20 y20 z20
  obtain ⟨rfl, N20q, e20⟩ := hQ20
  have N20 := Fr.app N19 N20q
  obtain ⟨fs, hr, hrun, hended, hW, hsame⟩ := X20.leave (v := some (.int (1 : Int32))) (fun h => by rw [Bd.returns] at h; cases h)
  refine ⟨_, _, pre0 _ ?_, hrun, hended, _, _, rfl, ?_, ⟨_, rfl⟩, hW, hsame.mono (by decide) (by decide)⟩
  · show Steps p.tables e below (s₁.setTop (mkF m 0 #[.val (.int p1), .val (.int p2), .val (.int p3), .val (.int p4), .val (.int p5), .unset, .unset, .unset, .unset, .unset, .unset, .unset, .unset, .unset, .unset] [])) _
    refine XS.iloadN X0.here hx rfl (hb hby at_0) rfl ?_
    show Steps p.tables e below (s₁.setTop (mkF m 1 #[.val (.int p1), .val (.int p2), .val (.int p3), .val (.int p4), .val (.int p5), .unset, .unset, .unset, .unset, .unset, .unset, .unset, .unset, .unset, .unset] [(.int p1)])) _
    refine X0.ldcInt hx hown (mvT hZ (hw _ (List.mem_of_getElem? (i := 0) rfl))) (g := (mkF m 1 #[.val (.int p1), .val (.int p2), .val (.int p3), .val (.int p4), .val (.int p5), .unset, .unset, .unset, .unset, .unset, .unset, .unset, .unset, .unset, .unset] [(.int p1)])) rfl (hb hby at_1) _ ?_
    show Steps p.tables e below (s₁.setTop (mkF m 3 #[.val (.int p1), .val (.int p2), .val (.int p3), .val (.int p4), .val (.int p5), .unset, .unset, .unset, .unset, .unset, .unset, .unset, .unset, .unset, .unset] [(.int (2147483647 : Int32)), (.int p1)])) _
    refine XS.iand X0.here hx rfl (hb hby at_3) rfl ?_
    show Steps p.tables e below (s₁.setTop (mkF m 4 #[.val (.int p1), .val (.int p2), .val (.int p3), .val (.int p4), .val (.int p5), .unset, .unset, .unset, .unset, .unset, .unset, .unset, .unset, .unset, .unset] [(.int (p1 &&& (2147483647 : Int32)))])) _
    refine XS.iconst X0.here hx rfl (hb hby at_4) ?_
    show Steps p.tables e below (s₁.setTop (mkF m 5 #[.val (.int p1), .val (.int p2), .val (.int p3), .val (.int p4), .val (.int p5), .unset, .unset, .unset, .unset, .unset, .unset, .unset, .unset, .unset, .unset] [(.int (3 : Int32)), (.int (p1 &&& (2147483647 : Int32)))])) _
    refine iremM X0 hx rfl (hb hby at_5) rfl (by decide) ?_
    show Steps p.tables e below (s₁.setTop (mkF m 6 #[.val (.int p1), .val (.int p2), .val (.int p3), .val (.int p4), .val (.int p5), .unset, .unset, .unset, .unset, .unset, .unset, .unset, .unset, .unset, .unset] [(.int ((p1 &&& (2147483647 : Int32)) % (3 : Int32)))])) _
    refine XS.iconst X0.here hx rfl (hb hby at_6) ?_
    show Steps p.tables e below (s₁.setTop (mkF m 7 #[.val (.int p1), .val (.int p2), .val (.int p3), .val (.int p4), .val (.int p5), .unset, .unset, .unset, .unset, .unset, .unset, .unset, .unset, .unset, .unset] [(.int (1 : Int32)), (.int ((p1 &&& (2147483647 : Int32)) % (3 : Int32)))])) _
    refine XS.iadd X0.here hx rfl (hb hby at_7) rfl ?_
    show Steps p.tables e below (s₁.setTop (mkF m 8 #[.val (.int p1), .val (.int p2), .val (.int p3), .val (.int p4), .val (.int p5), .unset, .unset, .unset, .unset, .unset, .unset, .unset, .unset, .unset, .unset] [(.int (((p1 &&& (2147483647 : Int32)) % (3 : Int32)) + (1 : Int32)))])) _
    rw [hL]
    show Steps p.tables e below (s₁.setTop (mkF m 8 #[.val (.int p1), .val (.int p2), .val (.int p3), .val (.int p4), .val (.int p5), .unset, .unset, .unset, .unset, .unset, .unset, .unset, .unset, .unset, .unset] [(.int (2 : Int32))])) _
    refine XS.istore X0.here hx rfl (hb hby at_8) rfl (l' := #[.val (.int p1), .val (.int p2), .val (.int p3), .val (.int p4), .val (.int p5), .val (.int (2 : Int32)), .unset, .unset, .unset, .unset, .unset, .unset, .unset, .unset, .unset]) rfl ?_
    show Steps p.tables e below (s₁.setTop (mkF m 10 #[.val (.int p1), .val (.int p2), .val (.int p3), .val (.int p4), .val (.int p5), .val (.int (2 : Int32)), .unset, .unset, .unset, .unset, .unset, .unset, .unset, .unset, .unset] [])) _
    refine XS.iloadN X0.here hx rfl (hb hby at_10) rfl ?_
    show Steps p.tables e below (s₁.setTop (mkF m 11 #[.val (.int p1), .val (.int p2), .val (.int p3), .val (.int p4), .val (.int p5), .val (.int (2 : Int32)), .unset, .unset, .unset, .unset, .unset, .unset, .unset, .unset, .unset] [(.int p2)])) _
    refine X0.ldcInt hx hown (mvT hZ (hw _ (List.mem_of_getElem? (i := 0) rfl))) (g := (mkF m 11 #[.val (.int p1), .val (.int p2), .val (.int p3), .val (.int p4), .val (.int p5), .val (.int (2 : Int32)), .unset, .unset, .unset, .unset, .unset, .unset, .unset, .unset, .unset] [(.int p2)])) rfl (hb hby at_11) _ ?_
    show Steps p.tables e below (s₁.setTop (mkF m 13 #[.val (.int p1), .val (.int p2), .val (.int p3), .val (.int p4), .val (.int p5), .val (.int (2 : Int32)), .unset, .unset, .unset, .unset, .unset, .unset, .unset, .unset, .unset] [(.int (2147483647 : Int32)), (.int p2)])) _
    refine XS.iand X0.here hx rfl (hb hby at_13) rfl ?_
    show Steps p.tables e below (s₁.setTop (mkF m 14 #[.val (.int p1), .val (.int p2), .val (.int p3), .val (.int p4), .val (.int p5), .val (.int (2 : Int32)), .unset, .unset, .unset, .unset, .unset, .unset, .unset, .unset, .unset] [(.int (p2 &&& (2147483647 : Int32)))])) _
    refine XS.iload X0.here hx rfl (hb hby at_14) rfl ?_
    show Steps p.tables e below (s₁.setTop (mkF m 16 #[.val (.int p1), .val (.int p2), .val (.int p3), .val (.int p4), .val (.int p5), .val (.int (2 : Int32)), .unset, .unset, .unset, .unset, .unset, .unset, .unset, .unset, .unset] [(.int (2 : Int32)), (.int (p2 &&& (2147483647 : Int32)))])) _
    refine iremM X0 hx rfl (hb hby at_16) rfl (by decide) ?_
    show Steps p.tables e below (s₁.setTop (mkF m 17 #[.val (.int p1), .val (.int p2), .val (.int p3), .val (.int p4), .val (.int p5), .val (.int (2 : Int32)), .unset, .unset, .unset, .unset, .unset, .unset, .unset, .unset, .unset] [(.int ((p2 &&& (2147483647 : Int32)) % (2 : Int32)))])) _
    refine XS.iconst X0.here hx rfl (hb hby at_17) ?_
    show Steps p.tables e below (s₁.setTop (mkF m 18 #[.val (.int p1), .val (.int p2), .val (.int p3), .val (.int p4), .val (.int p5), .val (.int (2 : Int32)), .unset, .unset, .unset, .unset, .unset, .unset, .unset, .unset, .unset] [(.int (1 : Int32)), (.int ((p2 &&& (2147483647 : Int32)) % (2 : Int32)))])) _
    refine XS.iadd X0.here hx rfl (hb hby at_18) rfl ?_
    show Steps p.tables e below (s₁.setTop (mkF m 19 #[.val (.int p1), .val (.int p2), .val (.int p3), .val (.int p4), .val (.int p5), .val (.int (2 : Int32)), .unset, .unset, .unset, .unset, .unset, .unset, .unset, .unset, .unset] [(.int (((p2 &&& (2147483647 : Int32)) % (2 : Int32)) + (1 : Int32)))])) _
    rw [hWk]
    show Steps p.tables e below (s₁.setTop (mkF m 19 #[.val (.int p1), .val (.int p2), .val (.int p3), .val (.int p4), .val (.int p5), .val (.int (2 : Int32)), .unset, .unset, .unset, .unset, .unset, .unset, .unset, .unset, .unset] [(.int wk)])) _
    refine XS.istore X0.here hx rfl (hb hby at_19) rfl (l' := #[.val (.int p1), .val (.int p2), .val (.int p3), .val (.int p4), .val (.int p5), .val (.int (2 : Int32)), .val (.int wk), .unset, .unset, .unset, .unset, .unset, .unset, .unset, .unset]) rfl ?_
    show Steps p.tables e below (s₁.setTop (mkF m 21 #[.val (.int p1), .val (.int p2), .val (.int p3), .val (.int p4), .val (.int p5), .val (.int (2 : Int32)), .val (.int wk), .unset, .unset, .unset, .unset, .unset, .unset, .unset, .unset] [])) _
    refine XS.iloadN X0.here hx rfl (hb hby at_21) rfl ?_
    show Steps p.tables e below (s₁.setTop (mkF m 22 #[.val (.int p1), .val (.int p2), .val (.int p3), .val (.int p4), .val (.int p5), .val (.int (2 : Int32)), .val (.int wk), .unset, .unset, .unset, .unset, .unset, .unset, .unset, .unset] [(.int p3)])) _
    refine X0.ldcInt hx hown (mvT hZ (hw _ (List.mem_of_getElem? (i := 0) rfl))) (g := (mkF m 22 #[.val (.int p1), .val (.int p2), .val (.int p3), .val (.int p4), .val (.int p5), .val (.int (2 : Int32)), .val (.int wk), .unset, .unset, .unset, .unset, .unset, .unset, .unset, .unset] [(.int p3)])) rfl (hb hby at_22) _ ?_
    show Steps p.tables e below (s₁.setTop (mkF m 24 #[.val (.int p1), .val (.int p2), .val (.int p3), .val (.int p4), .val (.int p5), .val (.int (2 : Int32)), .val (.int wk), .unset, .unset, .unset, .unset, .unset, .unset, .unset, .unset] [(.int (2147483647 : Int32)), (.int p3)])) _
    refine XS.iand X0.here hx rfl (hb hby at_24) rfl ?_
    show Steps p.tables e below (s₁.setTop (mkF m 25 #[.val (.int p1), .val (.int p2), .val (.int p3), .val (.int p4), .val (.int p5), .val (.int (2 : Int32)), .val (.int wk), .unset, .unset, .unset, .unset, .unset, .unset, .unset, .unset] [(.int (p3 &&& (2147483647 : Int32)))])) _
    refine XS.iload X0.here hx rfl (hb hby at_25) rfl ?_
    show Steps p.tables e below (s₁.setTop (mkF m 27 #[.val (.int p1), .val (.int p2), .val (.int p3), .val (.int p4), .val (.int p5), .val (.int (2 : Int32)), .val (.int wk), .unset, .unset, .unset, .unset, .unset, .unset, .unset, .unset] [(.int wk), (.int (p3 &&& (2147483647 : Int32)))])) _
    refine iremM X0 hx rfl (hb hby at_27) rfl (own_ne0 hw0) ?_
    show Steps p.tables e below (s₁.setTop (mkF m 28 #[.val (.int p1), .val (.int p2), .val (.int p3), .val (.int p4), .val (.int p5), .val (.int (2 : Int32)), .val (.int wk), .unset, .unset, .unset, .unset, .unset, .unset, .unset, .unset] [(.int ((p3 &&& (2147483647 : Int32)) % wk))])) _
    rw [hE0]
    show Steps p.tables e below (s₁.setTop (mkF m 28 #[.val (.int p1), .val (.int p2), .val (.int p3), .val (.int p4), .val (.int p5), .val (.int (2 : Int32)), .val (.int wk), .unset, .unset, .unset, .unset, .unset, .unset, .unset, .unset] [(.int e_0)])) _
    refine XS.istore X0.here hx rfl (hb hby at_28) rfl (l' := #[.val (.int p1), .val (.int p2), .val (.int p3), .val (.int p4), .val (.int p5), .val (.int (2 : Int32)), .val (.int wk), .val (.int e_0), .unset, .unset, .unset, .unset, .unset, .unset, .unset]) rfl ?_
    show Steps p.tables e below (s₁.setTop (mkF m 30 #[.val (.int p1), .val (.int p2), .val (.int p3), .val (.int p4), .val (.int p5), .val (.int (2 : Int32)), .val (.int wk), .val (.int e_0), .unset, .unset, .unset, .unset, .unset, .unset, .unset] [])) _
    refine XS.iloadN X0.here hx rfl (hb hby at_30) rfl ?_
    show Steps p.tables e below (s₁.setTop (mkF m 31 #[.val (.int p1), .val (.int p2), .val (.int p3), .val (.int p4), .val (.int p5), .val (.int (2 : Int32)), .val (.int wk), .val (.int e_0), .unset, .unset, .unset, .unset, .unset, .unset, .unset] [(.int p4)])) _
    refine X0.ldcInt hx hown (mvT hZ (hw _ (List.mem_of_getElem? (i := 0) rfl))) (g := (mkF m 31 #[.val (.int p1), .val (.int p2), .val (.int p3), .val (.int p4), .val (.int p5), .val (.int (2 : Int32)), .val (.int wk), .val (.int e_0), .unset, .unset, .unset, .unset, .unset, .unset, .unset] [(.int p4)])) rfl (hb hby at_31) _ ?_
    show Steps p.tables e below (s₁.setTop (mkF m 33 #[.val (.int p1), .val (.int p2), .val (.int p3), .val (.int p4), .val (.int p5), .val (.int (2 : Int32)), .val (.int wk), .val (.int e_0), .unset, .unset, .unset, .unset, .unset, .unset, .unset] [(.int (2147483647 : Int32)), (.int p4)])) _
    refine XS.iand X0.here hx rfl (hb hby at_33) rfl ?_
    show Steps p.tables e below (s₁.setTop (mkF m 34 #[.val (.int p1), .val (.int p2), .val (.int p3), .val (.int p4), .val (.int p5), .val (.int (2 : Int32)), .val (.int wk), .val (.int e_0), .unset, .unset, .unset, .unset, .unset, .unset, .unset] [(.int (p4 &&& (2147483647 : Int32)))])) _
    refine XS.iload X0.here hx rfl (hb hby at_34) rfl ?_
    show Steps p.tables e below (s₁.setTop (mkF m 36 #[.val (.int p1), .val (.int p2), .val (.int p3), .val (.int p4), .val (.int p5), .val (.int (2 : Int32)), .val (.int wk), .val (.int e_0), .unset, .unset, .unset, .unset, .unset, .unset, .unset] [(.int wk), (.int (p4 &&& (2147483647 : Int32)))])) _
    refine iremM X0 hx rfl (hb hby at_36) rfl (own_ne0 hw0) ?_
    show Steps p.tables e below (s₁.setTop (mkF m 37 #[.val (.int p1), .val (.int p2), .val (.int p3), .val (.int p4), .val (.int p5), .val (.int (2 : Int32)), .val (.int wk), .val (.int e_0), .unset, .unset, .unset, .unset, .unset, .unset, .unset] [(.int ((p4 &&& (2147483647 : Int32)) % wk))])) _
    rw [hE1]
    show Steps p.tables e below (s₁.setTop (mkF m 37 #[.val (.int p1), .val (.int p2), .val (.int p3), .val (.int p4), .val (.int p5), .val (.int (2 : Int32)), .val (.int wk), .val (.int e_0), .unset, .unset, .unset, .unset, .unset, .unset, .unset] [(.int e_1)])) _
    refine XS.istore X0.here hx rfl (hb hby at_37) rfl (l' := #[.val (.int p1), .val (.int p2), .val (.int p3), .val (.int p4), .val (.int p5), .val (.int (2 : Int32)), .val (.int wk), .val (.int e_0), .val (.int e_1), .unset, .unset, .unset, .unset, .unset, .unset]) rfl ?_
    show Steps p.tables e below (s₁.setTop (mkF m 39 #[.val (.int p1), .val (.int p2), .val (.int p3), .val (.int p4), .val (.int p5), .val (.int (2 : Int32)), .val (.int wk), .val (.int e_0), .val (.int e_1), .unset, .unset, .unset, .unset, .unset, .unset] [])) _
    refine XS.iload X0.here hx rfl (hb hby at_39) rfl ?_
    show Steps p.tables e below (s₁.setTop (mkF m 41 #[.val (.int p1), .val (.int p2), .val (.int p3), .val (.int p4), .val (.int p5), .val (.int (2 : Int32)), .val (.int wk), .val (.int e_0), .val (.int e_1), .unset, .unset, .unset, .unset, .unset, .unset] [(.int p5)])) _
    refine X0.ldcInt hx hown (mvT hZ (hw _ (List.mem_of_getElem? (i := 0) rfl))) (g := (mkF m 41 #[.val (.int p1), .val (.int p2), .val (.int p3), .val (.int p4), .val (.int p5), .val (.int (2 : Int32)), .val (.int wk), .val (.int e_0), .val (.int e_1), .unset, .unset, .unset, .unset, .unset, .unset] [(.int p5)])) rfl (hb hby at_41) _ ?_
    show Steps p.tables e below (s₁.setTop (mkF m 43 #[.val (.int p1), .val (.int p2), .val (.int p3), .val (.int p4), .val (.int p5), .val (.int (2 : Int32)), .val (.int wk), .val (.int e_0), .val (.int e_1), .unset, .unset, .unset, .unset, .unset, .unset] [(.int (2147483647 : Int32)), (.int p5)])) _
    refine XS.iand X0.here hx rfl (hb hby at_43) rfl ?_
    show Steps p.tables e below (s₁.setTop (mkF m 44 #[.val (.int p1), .val (.int p2), .val (.int p3), .val (.int p4), .val (.int p5), .val (.int (2 : Int32)), .val (.int wk), .val (.int e_0), .val (.int e_1), .unset, .unset, .unset, .unset, .unset, .unset] [(.int (p5 &&& (2147483647 : Int32)))])) _
    refine XS.iload X0.here hx rfl (hb hby at_44) rfl ?_
    show Steps p.tables e below (s₁.setTop (mkF m 46 #[.val (.int p1), .val (.int p2), .val (.int p3), .val (.int p4), .val (.int p5), .val (.int (2 : Int32)), .val (.int wk), .val (.int e_0), .val (.int e_1), .unset, .unset, .unset, .unset, .unset, .unset] [(.int wk), (.int (p5 &&& (2147483647 : Int32)))])) _
    refine iremM X0 hx rfl (hb hby at_46) rfl (own_ne0 hw0) ?_
    show Steps p.tables e below (s₁.setTop (mkF m 47 #[.val (.int p1), .val (.int p2), .val (.int p3), .val (.int p4), .val (.int p5), .val (.int (2 : Int32)), .val (.int wk), .val (.int e_0), .val (.int e_1), .unset, .unset, .unset, .unset, .unset, .unset] [(.int ((p5 &&& (2147483647 : Int32)) % wk))])) _
    rw [hE2]
    show Steps p.tables e below (s₁.setTop (mkF m 47 #[.val (.int p1), .val (.int p2), .val (.int p3), .val (.int p4), .val (.int p5), .val (.int (2 : Int32)), .val (.int wk), .val (.int e_0), .val (.int e_1), .unset, .unset, .unset, .unset, .unset, .unset] [(.int e_2)])) _
    refine XS.istore X0.here hx rfl (hb hby at_47) rfl (l' := #[.val (.int p1), .val (.int p2), .val (.int p3), .val (.int p4), .val (.int p5), .val (.int (2 : Int32)), .val (.int wk), .val (.int e_0), .val (.int e_1), .val (.int e_2), .unset, .unset, .unset, .unset, .unset]) rfl ?_
    show Steps p.tables e below (s₁.setTop (mkF m 49 #[.val (.int p1), .val (.int p2), .val (.int p3), .val (.int p4), .val (.int p5), .val (.int (2 : Int32)), .val (.int wk), .val (.int e_0), .val (.int e_1), .val (.int e_2), .unset, .unset, .unset, .unset, .unset] [])) _
    refine XS.iconst X0.here hx rfl (hb hby at_49) ?_
    show Steps p.tables e below (s₁.setTop (mkF m 50 #[.val (.int p1), .val (.int p2), .val (.int p3), .val (.int p4), .val (.int p5), .val (.int (2 : Int32)), .val (.int wk), .val (.int e_0), .val (.int e_1), .val (.int e_2), .unset, .unset, .unset, .unset, .unset] [(.int (1 : Int32))])) _
    refine st6 _ ?_
    show Steps p.tables e below (T6.setTop (mkF m 52 #[.val (.int p1), .val (.int p2), .val (.int p3), .val (.int p4), .val (.int p5), .val (.int (2 : Int32)), .val (.int wk), .val (.int e_0), .val (.int e_1), .val (.int e_2), .unset, .unset, .unset, .unset, .unset] [(.ref b6)])) _
    refine XS.astore X6.here hx rfl (hb hby at_52) rfl rfl (l' := #[.val (.int p1), .val (.int p2), .val (.int p3), .val (.int p4), .val (.int p5), .val (.int (2 : Int32)), .val (.int wk), .val (.int e_0), .val (.int e_1), .val (.int e_2), .val (.ref b6), .unset, .unset, .unset, .unset]) rfl ?_
    show Steps p.tables e below (T6.setTop (mkF m 54 #[.val (.int p1), .val (.int p2), .val (.int p3), .val (.int p4), .val (.int p5), .val (.int (2 : Int32)), .val (.int wk), .val (.int e_0), .val (.int e_1), .val (.int e_2), .val (.ref b6), .unset, .unset, .unset, .unset] [])) _
    refine XS.iconst X6.here hx rfl (hb hby at_54) ?_
    show Steps p.tables e below (T6.setTop (mkF m 55 #[.val (.int p1), .val (.int p2), .val (.int p3), .val (.int p4), .val (.int p5), .val (.int (2 : Int32)), .val (.int wk), .val (.int e_0), .val (.int e_1), .val (.int e_2), .val (.ref b6), .unset, .unset, .unset, .unset] [(.int (2 : Int32))])) _
    refine st7 _ ?_
    show Steps p.tables e below (T7.setTop (mkF m 57 #[.val (.int p1), .val (.int p2), .val (.int p3), .val (.int p4), .val (.int p5), .val (.int (2 : Int32)), .val (.int wk), .val (.int e_0), .val (.int e_1), .val (.int e_2), .val (.ref b6), .unset, .unset, .unset, .unset] [(.ref b7)])) _
    refine XS.astore X7.here hx rfl (hb hby at_57) rfl rfl (l' := #[.val (.int p1), .val (.int p2), .val (.int p3), .val (.int p4), .val (.int p5), .val (.int (2 : Int32)), .val (.int wk), .val (.int e_0), .val (.int e_1), .val (.int e_2), .val (.ref b6), .val (.ref b7), .unset, .unset, .unset]) rfl ?_
    show Steps p.tables e below (T7.setTop (mkF m 59 #[.val (.int p1), .val (.int p2), .val (.int p3), .val (.int p4), .val (.int p5), .val (.int (2 : Int32)), .val (.int wk), .val (.int e_0), .val (.int e_1), .val (.int e_2), .val (.ref b6), .val (.ref b7), .unset, .unset, .unset] [])) _
    refine XS.iconst X7.here hx rfl (hb hby at_59) ?_
    show Steps p.tables e below (T7.setTop (mkF m 60 #[.val (.int p1), .val (.int p2), .val (.int p3), .val (.int p4), .val (.int p5), .val (.int (2 : Int32)), .val (.int wk), .val (.int e_0), .val (.int e_1), .val (.int e_2), .val (.ref b6), .val (.ref b7), .unset, .unset, .unset] [(.int (3 : Int32))])) _
    refine st8 _ ?_
    show Steps p.tables e below (T8.setTop (mkF m 62 #[.val (.int p1), .val (.int p2), .val (.int p3), .val (.int p4), .val (.int p5), .val (.int (2 : Int32)), .val (.int wk), .val (.int e_0), .val (.int e_1), .val (.int e_2), .val (.ref b6), .val (.ref b7), .unset, .unset, .unset] [(.ref b8)])) _
    refine XS.astore X8.here hx rfl (hb hby at_62) rfl rfl (l' := #[.val (.int p1), .val (.int p2), .val (.int p3), .val (.int p4), .val (.int p5), .val (.int (2 : Int32)), .val (.int wk), .val (.int e_0), .val (.int e_1), .val (.int e_2), .val (.ref b6), .val (.ref b7), .val (.ref b8), .unset, .unset]) rfl ?_
    show Steps p.tables e below (T8.setTop (mkF m 64 #[.val (.int p1), .val (.int p2), .val (.int p3), .val (.int p4), .val (.int p5), .val (.int (2 : Int32)), .val (.int wk), .val (.int e_0), .val (.int e_1), .val (.int e_2), .val (.ref b6), .val (.ref b7), .val (.ref b8), .unset, .unset] [])) _
    refine XS.aload X8.here hx rfl (hb hby at_64) rfl rfl ?_
    show Steps p.tables e below (T8.setTop (mkF m 66 #[.val (.int p1), .val (.int p2), .val (.int p3), .val (.int p4), .val (.int p5), .val (.int (2 : Int32)), .val (.int wk), .val (.int e_0), .val (.int e_1), .val (.int e_2), .val (.ref b6), .val (.ref b7), .val (.ref b8), .unset, .unset] [(.ref b6)])) _
    refine XS.iconst X8.here hx rfl (hb hby at_66) ?_
    show Steps p.tables e below (T8.setTop (mkF m 67 #[.val (.int p1), .val (.int p2), .val (.int p3), .val (.int p4), .val (.int p5), .val (.int (2 : Int32)), .val (.int wk), .val (.int e_0), .val (.int e_1), .val (.int e_2), .val (.ref b6), .val (.ref b7), .val (.ref b8), .unset, .unset] [(.int (0 : Int32)), (.ref b6)])) _
    refine XS.iload X8.here hx rfl (hb hby at_67) rfl ?_
    show Steps p.tables e below (T8.setTop (mkF m 69 #[.val (.int p1), .val (.int p2), .val (.int p3), .val (.int p4), .val (.int p5), .val (.int (2 : Int32)), .val (.int wk), .val (.int e_0), .val (.int e_1), .val (.int e_2), .val (.ref b6), .val (.ref b7), .val (.ref b8), .unset, .unset] [(.int e_0), (.int (0 : Int32)), (.ref b6)])) _
    refine st9 _ ?_
    show Steps p.tables e below (T9.setTop (mkF m 70 #[.val (.int p1), .val (.int p2), .val (.int p3), .val (.int p4), .val (.int p5), .val (.int (2 : Int32)), .val (.int wk), .val (.int e_0), .val (.int e_1), .val (.int e_2), .val (.ref b6), .val (.ref b7), .val (.ref b8), .unset, .unset] [])) _
    refine XS.aload X9.here hx rfl (hb hby at_70) rfl rfl ?_
    show Steps p.tables e below (T9.setTop (mkF m 72 #[.val (.int p1), .val (.int p2), .val (.int p3), .val (.int p4), .val (.int p5), .val (.int (2 : Int32)), .val (.int wk), .val (.int e_0), .val (.int e_1), .val (.int e_2), .val (.ref b6), .val (.ref b7), .val (.ref b8), .unset, .unset] [(.ref b7)])) _
    refine XS.iconst X9.here hx rfl (hb hby at_72) ?_
    show Steps p.tables e below (T9.setTop (mkF m 73 #[.val (.int p1), .val (.int p2), .val (.int p3), .val (.int p4), .val (.int p5), .val (.int (2 : Int32)), .val (.int wk), .val (.int e_0), .val (.int e_1), .val (.int e_2), .val (.ref b6), .val (.ref b7), .val (.ref b8), .unset, .unset] [(.int (0 : Int32)), (.ref b7)])) _
    refine XS.iload X9.here hx rfl (hb hby at_73) rfl ?_
    show Steps p.tables e below (T9.setTop (mkF m 75 #[.val (.int p1), .val (.int p2), .val (.int p3), .val (.int p4), .val (.int p5), .val (.int (2 : Int32)), .val (.int wk), .val (.int e_0), .val (.int e_1), .val (.int e_2), .val (.ref b6), .val (.ref b7), .val (.ref b8), .unset, .unset] [(.int e_0), (.int (0 : Int32)), (.ref b7)])) _
    refine st10 _ ?_
    show Steps p.tables e below (T10.setTop (mkF m 76 #[.val (.int p1), .val (.int p2), .val (.int p3), .val (.int p4), .val (.int p5), .val (.int (2 : Int32)), .val (.int wk), .val (.int e_0), .val (.int e_1), .val (.int e_2), .val (.ref b6), .val (.ref b7), .val (.ref b8), .unset, .unset] [])) _
    refine XS.aload X10.here hx rfl (hb hby at_76) rfl rfl ?_
    show Steps p.tables e below (T10.setTop (mkF m 78 #[.val (.int p1), .val (.int p2), .val (.int p3), .val (.int p4), .val (.int p5), .val (.int (2 : Int32)), .val (.int wk), .val (.int e_0), .val (.int e_1), .val (.int e_2), .val (.ref b6), .val (.ref b7), .val (.ref b8), .unset, .unset] [(.ref b7)])) _
    refine XS.iconst X10.here hx rfl (hb hby at_78) ?_
    show Steps p.tables e below (T10.setTop (mkF m 79 #[.val (.int p1), .val (.int p2), .val (.int p3), .val (.int p4), .val (.int p5), .val (.int (2 : Int32)), .val (.int wk), .val (.int e_0), .val (.int e_1), .val (.int e_2), .val (.ref b6), .val (.ref b7), .val (.ref b8), .unset, .unset] [(.int (1 : Int32)), (.ref b7)])) _
    refine XS.iload X10.here hx rfl (hb hby at_79) rfl ?_
    show Steps p.tables e below (T10.setTop (mkF m 81 #[.val (.int p1), .val (.int p2), .val (.int p3), .val (.int p4), .val (.int p5), .val (.int (2 : Int32)), .val (.int wk), .val (.int e_0), .val (.int e_1), .val (.int e_2), .val (.ref b6), .val (.ref b7), .val (.ref b8), .unset, .unset] [(.int e_1), (.int (1 : Int32)), (.ref b7)])) _
    refine st11 _ ?_
    show Steps p.tables e below (T11.setTop (mkF m 82 #[.val (.int p1), .val (.int p2), .val (.int p3), .val (.int p4), .val (.int p5), .val (.int (2 : Int32)), .val (.int wk), .val (.int e_0), .val (.int e_1), .val (.int e_2), .val (.ref b6), .val (.ref b7), .val (.ref b8), .unset, .unset] [])) _
    refine XS.aload X11.here hx rfl (hb hby at_82) rfl rfl ?_
    show Steps p.tables e below (T11.setTop (mkF m 84 #[.val (.int p1), .val (.int p2), .val (.int p3), .val (.int p4), .val (.int p5), .val (.int (2 : Int32)), .val (.int wk), .val (.int e_0), .val (.int e_1), .val (.int e_2), .val (.ref b6), .val (.ref b7), .val (.ref b8), .unset, .unset] [(.ref b8)])) _
    refine XS.iconst X11.here hx rfl (hb hby at_84) ?_
    show Steps p.tables e below (T11.setTop (mkF m 85 #[.val (.int p1), .val (.int p2), .val (.int p3), .val (.int p4), .val (.int p5), .val (.int (2 : Int32)), .val (.int wk), .val (.int e_0), .val (.int e_1), .val (.int e_2), .val (.ref b6), .val (.ref b7), .val (.ref b8), .unset, .unset] [(.int (0 : Int32)), (.ref b8)])) _
    refine XS.iload X11.here hx rfl (hb hby at_85) rfl ?_
    show Steps p.tables e below (T11.setTop (mkF m 87 #[.val (.int p1), .val (.int p2), .val (.int p3), .val (.int p4), .val (.int p5), .val (.int (2 : Int32)), .val (.int wk), .val (.int e_0), .val (.int e_1), .val (.int e_2), .val (.ref b6), .val (.ref b7), .val (.ref b8), .unset, .unset] [(.int e_0), (.int (0 : Int32)), (.ref b8)])) _
    refine st12 _ ?_
    show Steps p.tables e below (T12.setTop (mkF m 88 #[.val (.int p1), .val (.int p2), .val (.int p3), .val (.int p4), .val (.int p5), .val (.int (2 : Int32)), .val (.int wk), .val (.int e_0), .val (.int e_1), .val (.int e_2), .val (.ref b6), .val (.ref b7), .val (.ref b8), .unset, .unset] [])) _
    refine XS.aload X12.here hx rfl (hb hby at_88) rfl rfl ?_
    show Steps p.tables e below (T12.setTop (mkF m 90 #[.val (.int p1), .val (.int p2), .val (.int p3), .val (.int p4), .val (.int p5), .val (.int (2 : Int32)), .val (.int wk), .val (.int e_0), .val (.int e_1), .val (.int e_2), .val (.ref b6), .val (.ref b7), .val (.ref b8), .unset, .unset] [(.ref b8)])) _
    refine XS.iconst X12.here hx rfl (hb hby at_90) ?_
    show Steps p.tables e below (T12.setTop (mkF m 91 #[.val (.int p1), .val (.int p2), .val (.int p3), .val (.int p4), .val (.int p5), .val (.int (2 : Int32)), .val (.int wk), .val (.int e_0), .val (.int e_1), .val (.int e_2), .val (.ref b6), .val (.ref b7), .val (.ref b8), .unset, .unset] [(.int (1 : Int32)), (.ref b8)])) _
    refine XS.iload X12.here hx rfl (hb hby at_91) rfl ?_
    show Steps p.tables e below (T12.setTop (mkF m 93 #[.val (.int p1), .val (.int p2), .val (.int p3), .val (.int p4), .val (.int p5), .val (.int (2 : Int32)), .val (.int wk), .val (.int e_0), .val (.int e_1), .val (.int e_2), .val (.ref b6), .val (.ref b7), .val (.ref b8), .unset, .unset] [(.int e_1), (.int (1 : Int32)), (.ref b8)])) _
    refine st13 _ ?_
    show Steps p.tables e below (T13.setTop (mkF m 94 #[.val (.int p1), .val (.int p2), .val (.int p3), .val (.int p4), .val (.int p5), .val (.int (2 : Int32)), .val (.int wk), .val (.int e_0), .val (.int e_1), .val (.int e_2), .val (.ref b6), .val (.ref b7), .val (.ref b8), .unset, .unset] [])) _
    refine XS.aload X13.here hx rfl (hb hby at_94) rfl rfl ?_
    show Steps p.tables e below (T13.setTop (mkF m 96 #[.val (.int p1), .val (.int p2), .val (.int p3), .val (.int p4), .val (.int p5), .val (.int (2 : Int32)), .val (.int wk), .val (.int e_0), .val (.int e_1), .val (.int e_2), .val (.ref b6), .val (.ref b7), .val (.ref b8), .unset, .unset] [(.ref b8)])) _
    refine XS.iconst X13.here hx rfl (hb hby at_96) ?_
    show Steps p.tables e below (T13.setTop (mkF m 97 #[.val (.int p1), .val (.int p2), .val (.int p3), .val (.int p4), .val (.int p5), .val (.int (2 : Int32)), .val (.int wk), .val (.int e_0), .val (.int e_1), .val (.int e_2), .val (.ref b6), .val (.ref b7), .val (.ref b8), .unset, .unset] [(.int (2 : Int32)), (.ref b8)])) _
    refine XS.iload X13.here hx rfl (hb hby at_97) rfl ?_
    show Steps p.tables e below (T13.setTop (mkF m 99 #[.val (.int p1), .val (.int p2), .val (.int p3), .val (.int p4), .val (.int p5), .val (.int (2 : Int32)), .val (.int wk), .val (.int e_0), .val (.int e_1), .val (.int e_2), .val (.ref b6), .val (.ref b7), .val (.ref b8), .unset, .unset] [(.int e_2), (.int (2 : Int32)), (.ref b8)])) _
    refine st14 _ ?_
    show Steps p.tables e below (T14.setTop (mkF m 100 #[.val (.int p1), .val (.int p2), .val (.int p3), .val (.int p4), .val (.int p5), .val (.int (2 : Int32)), .val (.int wk), .val (.int e_0), .val (.int e_1), .val (.int e_2), .val (.ref b6), .val (.ref b7), .val (.ref b8), .unset, .unset] [])) _
    refine XS.iload X14.here hx rfl (hb hby at_100) rfl ?_
    show Steps p.tables e below (T14.setTop (mkF m 102 #[.val (.int p1), .val (.int p2), .val (.int p3), .val (.int p4), .val (.int p5), .val (.int (2 : Int32)), .val (.int wk), .val (.int e_0), .val (.int e_1), .val (.int e_2), .val (.ref b6), .val (.ref b7), .val (.ref b8), .unset, .unset] [(.int (2 : Int32))])) _
    refine XS.iconst X14.here hx rfl (hb hby at_102) ?_
    show Steps p.tables e below (T14.setTop (mkF m 103 #[.val (.int p1), .val (.int p2), .val (.int p3), .val (.int p4), .val (.int p5), .val (.int (2 : Int32)), .val (.int wk), .val (.int e_0), .val (.int e_1), .val (.int e_2), .val (.ref b6), .val (.ref b7), .val (.ref b8), .unset, .unset] [(.int (1 : Int32)), (.int (2 : Int32))])) _
    refine XS.icmpYes X14.here hx rfl (pc0 := 103) (pc' := 111) rfl (hb hby at_103) rfl (feq hc103).2 (by decide) (by decide) ?_
    show Steps p.tables e below (T14.setTop (mkF m 111 #[.val (.int p1), .val (.int p2), .val (.int p3), .val (.int p4), .val (.int p5), .val (.int (2 : Int32)), .val (.int wk), .val (.int e_0), .val (.int e_1), .val (.int e_2), .val (.ref b6), .val (.ref b7), .val (.ref b8), .unset, .unset] [])) _
    refine XS.iload X14.here hx rfl (hb hby at_111) rfl ?_
    show Steps p.tables e below (T14.setTop (mkF m 113 #[.val (.int p1), .val (.int p2), .val (.int p3), .val (.int p4), .val (.int p5), .val (.int (2 : Int32)), .val (.int wk), .val (.int e_0), .val (.int e_1), .val (.int e_2), .val (.ref b6), .val (.ref b7), .val (.ref b8), .unset, .unset] [(.int (2 : Int32))])) _
    refine XS.iconst X14.here hx rfl (hb hby at_113) ?_
    show Steps p.tables e below (T14.setTop (mkF m 114 #[.val (.int p1), .val (.int p2), .val (.int p3), .val (.int p4), .val (.int p5), .val (.int (2 : Int32)), .val (.int wk), .val (.int e_0), .val (.int e_1), .val (.int e_2), .val (.ref b6), .val (.ref b7), .val (.ref b8), .unset, .unset] [(.int (2 : Int32)), (.int (2 : Int32))])) _
    refine XS.icmpNo X14.here hx rfl (hb hby at_114) rfl (teq hc114).2 ?_
    show Steps p.tables e below (T14.setTop (mkF m 117 #[.val (.int p1), .val (.int p2), .val (.int p3), .val (.int p4), .val (.int p5), .val (.int (2 : Int32)), .val (.int wk), .val (.int e_0), .val (.int e_1), .val (.int e_2), .val (.ref b6), .val (.ref b7), .val (.ref b8), .unset, .unset] [])) _
    refine XS.aload X14.here hx rfl (hb hby at_117) rfl rfl ?_
    show Steps p.tables e below (T14.setTop (mkF m 119 #[.val (.int p1), .val (.int p2), .val (.int p3), .val (.int p4), .val (.int p5), .val (.int (2 : Int32)), .val (.int wk), .val (.int e_0), .val (.int e_1), .val (.int e_2), .val (.ref b6), .val (.ref b7), .val (.ref b8), .unset, .unset] [(.ref b7)])) _
    refine XS.goto X14.here hx rfl (pc0 := 119) (pc' := 124) rfl (hb hby at_119) (by decide) (by decide) ?_
    show Steps p.tables e below (T14.setTop (mkF m 124 #[.val (.int p1), .val (.int p2), .val (.int p3), .val (.int p4), .val (.int p5), .val (.int (2 : Int32)), .val (.int wk), .val (.int e_0), .val (.int e_1), .val (.int e_2), .val (.ref b6), .val (.ref b7), .val (.ref b8), .unset, .unset] [(.ref b7)])) _
    refine XS.astore X14.here hx rfl (hb hby at_124) rfl rfl (l' := #[.val (.int p1), .val (.int p2), .val (.int p3), .val (.int p4), .val (.int p5), .val (.int (2 : Int32)), .val (.int wk), .val (.int e_0), .val (.int e_1), .val (.int e_2), .val (.ref b6), .val (.ref b7), .val (.ref b8), .val (.ref b7), .unset]) rfl ?_
    show Steps p.tables e below (T14.setTop (mkF m 126 #[.val (.int p1), .val (.int p2), .val (.int p3), .val (.int p4), .val (.int p5), .val (.int (2 : Int32)), .val (.int wk), .val (.int e_0), .val (.int e_1), .val (.int e_2), .val (.ref b6), .val (.ref b7), .val (.ref b8), .val (.ref b7), .unset] [])) _
    refine XS.iload X14.here hx rfl (hb hby at_126) rfl ?_
    show Steps p.tables e below (T14.setTop (mkF m 128 #[.val (.int p1), .val (.int p2), .val (.int p3), .val (.int p4), .val (.int p5), .val (.int (2 : Int32)), .val (.int wk), .val (.int e_0), .val (.int e_1), .val (.int e_2), .val (.ref b6), .val (.ref b7), .val (.ref b8), .val (.ref b7), .unset] [(.int wk)])) _
    refine XS.aload X14.here hx rfl (hb hby at_128) rfl rfl ?_
    show Steps p.tables e below (T14.setTop (mkF m 130 #[.val (.int p1), .val (.int p2), .val (.int p3), .val (.int p4), .val (.int p5), .val (.int (2 : Int32)), .val (.int wk), .val (.int e_0), .val (.int e_1), .val (.int e_2), .val (.ref b6), .val (.ref b7), .val (.ref b8), .val (.ref b7), .unset] [(.ref b7), (.int wk)])) _
    refine st15 _ ?_
    show Steps p.tables e below (T15.setTop (mkF m 133 #[.val (.int p1), .val (.int p2), .val (.int p3), .val (.int p4), .val (.int p5), .val (.int (2 : Int32)), .val (.int wk), .val (.int e_0), .val (.int e_1), .val (.int e_2), .val (.ref b6), .val (.ref b7), .val (.ref b8), .val (.ref b7), .unset] [(.ref bp)])) _
    refine XS.astore X15.here hx rfl (hb hby at_133) rfl rfl (l' := #[.val (.int p1), .val (.int p2), .val (.int p3), .val (.int p4), .val (.int p5), .val (.int (2 : Int32)), .val (.int wk), .val (.int e_0), .val (.int e_1), .val (.int e_2), .val (.ref b6), .val (.ref b7), .val (.ref b8), .val (.ref b7), .val (.ref bp)]) rfl ?_
    show Steps p.tables e below (T15.setTop (mkF m 135 #[.val (.int p1), .val (.int p2), .val (.int p3), .val (.int p4), .val (.int p5), .val (.int (2 : Int32)), .val (.int wk), .val (.int e_0), .val (.int e_1), .val (.int e_2), .val (.ref b6), .val (.ref b7), .val (.ref b8), .val (.ref b7), .val (.ref bp)] [])) _
    refine XS.aload X15.here hx rfl (hb hby at_135) rfl rfl ?_
    show Steps p.tables e below (T15.setTop (mkF m 137 #[.val (.int p1), .val (.int p2), .val (.int p3), .val (.int p4), .val (.int p5), .val (.int (2 : Int32)), .val (.int wk), .val (.int e_0), .val (.int e_1), .val (.int e_2), .val (.ref b6), .val (.ref b7), .val (.ref b8), .val (.ref b7), .val (.ref bp)] [(.ref b7)])) _
    refine XS.iconst X15.here hx rfl (hb hby at_137) ?_
    show Steps p.tables e below (T15.setTop (mkF m 138 #[.val (.int p1), .val (.int p2), .val (.int p3), .val (.int p4), .val (.int p5), .val (.int (2 : Int32)), .val (.int wk), .val (.int e_0), .val (.int e_1), .val (.int e_2), .val (.ref b6), .val (.ref b7), .val (.ref b8), .val (.ref b7), .val (.ref bp)] [(.int (0 : Int32)), (.ref b7)])) _
    refine XS.iload X15.here hx rfl (hb hby at_138) rfl ?_
    show Steps p.tables e below (T15.setTop (mkF m 140 #[.val (.int p1), .val (.int p2), .val (.int p3), .val (.int p4), .val (.int p5), .val (.int (2 : Int32)), .val (.int wk), .val (.int e_0), .val (.int e_1), .val (.int e_2), .val (.ref b6), .val (.ref b7), .val (.ref b8), .val (.ref b7), .val (.ref bp)] [(.int wk), (.int (0 : Int32)), (.ref b7)])) _
    refine st16 _ ?_
    show Steps p.tables e below (T16.setTop (mkF m 141 #[.val (.int p1), .val (.int p2), .val (.int p3), .val (.int p4), .val (.int p5), .val (.int (2 : Int32)), .val (.int wk), .val (.int e_0), .val (.int e_1), .val (.int e_2), .val (.ref b6), .val (.ref b7), .val (.ref b8), .val (.ref b7), .val (.ref bp)] [])) _
    refine XS.aload X16.here hx rfl (hb hby at_141) rfl rfl ?_
    show Steps p.tables e below (T16.setTop (mkF m 143 #[.val (.int p1), .val (.int p2), .val (.int p3), .val (.int p4), .val (.int p5), .val (.int (2 : Int32)), .val (.int wk), .val (.int e_0), .val (.int e_1), .val (.int e_2), .val (.ref b6), .val (.ref b7), .val (.ref b8), .val (.ref b7), .val (.ref bp)] [(.ref bp)])) _
    refine st17.trans ?_
    show Steps p.tables e below (T17.setTop (mkF m 146 #[.val (.int p1), .val (.int p2), .val (.int p3), .val (.int p4), .val (.int p5), .val (.int (2 : Int32)), .val (.int wk), .val (.int e_0), .val (.int e_1), .val (.int e_2), .val (.ref b6), .val (.ref b7), .val (.ref b8), .val (.ref b7), .val (.ref bp)] [(.int (2 : Int32))])) _
    refine XS.iload X17.here hx rfl (hb hby at_146) rfl ?_
    show Steps p.tables e below (T17.setTop (mkF m 148 #[.val (.int p1), .val (.int p2), .val (.int p3), .val (.int p4), .val (.int p5), .val (.int (2 : Int32)), .val (.int wk), .val (.int e_0), .val (.int e_1), .val (.int e_2), .val (.ref b6), .val (.ref b7), .val (.ref b8), .val (.ref b7), .val (.ref bp)] [(.int (2 : Int32)), (.int (2 : Int32))])) _
    refine XS.icmpYes X17.here hx rfl (pc0 := 148) (pc' := 153) rfl (hb hby at_148) rfl (teq (rfl : (2 : Int32) = (2 : Int32))).1 (by decide) (by decide) ?_
    show Steps p.tables e below (T17.setTop (mkF m 153 #[.val (.int p1), .val (.int p2), .val (.int p3), .val (.int p4), .val (.int p5), .val (.int (2 : Int32)), .val (.int wk), .val (.int e_0), .val (.int e_1), .val (.int e_2), .val (.ref b6), .val (.ref b7), .val (.ref b8), .val (.ref b7), .val (.ref bp)] [])) _
    refine XS.aload X17.here hx rfl (hb hby at_153) rfl rfl ?_
    show Steps p.tables e below (T17.setTop (mkF m 155 #[.val (.int p1), .val (.int p2), .val (.int p3), .val (.int p4), .val (.int p5), .val (.int (2 : Int32)), .val (.int wk), .val (.int e_0), .val (.int e_1), .val (.int e_2), .val (.ref b6), .val (.ref b7), .val (.ref b8), .val (.ref b7), .val (.ref bp)] [(.ref bp)])) _
    refine st18.trans ?_
    show Steps p.tables e below (T18.setTop (mkF m 158 #[.val (.int p1), .val (.int p2), .val (.int p3), .val (.int p4), .val (.int p5), .val (.int (2 : Int32)), .val (.int wk), .val (.int e_0), .val (.int e_1), .val (.int e_2), .val (.ref b6), .val (.ref b7), .val (.ref b8), .val (.ref b7), .val (.ref bp)] [(.int wk)])) _
    refine XS.iload X18.here hx rfl (hb hby at_158) rfl ?_
    show Steps p.tables e below (T18.setTop (mkF m 160 #[.val (.int p1), .val (.int p2), .val (.int p3), .val (.int p4), .val (.int p5), .val (.int (2 : Int32)), .val (.int wk), .val (.int e_0), .val (.int e_1), .val (.int e_2), .val (.ref b6), .val (.ref b7), .val (.ref b8), .val (.ref b7), .val (.ref bp)] [(.int wk), (.int wk)])) _
    refine XS.icmpYes X18.here hx rfl (pc0 := 160) (pc' := 165) rfl (hb hby at_160) rfl (teq (rfl : wk = wk)).1 (by decide) (by decide) ?_
    show Steps p.tables e below (T18.setTop (mkF m 165 #[.val (.int p1), .val (.int p2), .val (.int p3), .val (.int p4), .val (.int p5), .val (.int (2 : Int32)), .val (.int wk), .val (.int e_0), .val (.int e_1), .val (.int e_2), .val (.ref b6), .val (.ref b7), .val (.ref b8), .val (.ref b7), .val (.ref bp)] [])) _
    refine XS.aload X18.here hx rfl (hb hby at_165) rfl rfl ?_
    show Steps p.tables e below (T18.setTop (mkF m 167 #[.val (.int p1), .val (.int p2), .val (.int p3), .val (.int p4), .val (.int p5), .val (.int (2 : Int32)), .val (.int wk), .val (.int e_0), .val (.int e_1), .val (.int e_2), .val (.ref b6), .val (.ref b7), .val (.ref b8), .val (.ref b7), .val (.ref bp)] [(.ref bp)])) _
    refine XS.iconst X18.here hx rfl (hb hby at_167) ?_
    show Steps p.tables e below (T18.setTop (mkF m 168 #[.val (.int p1), .val (.int p2), .val (.int p3), .val (.int p4), .val (.int p5), .val (.int (2 : Int32)), .val (.int wk), .val (.int e_0), .val (.int e_1), .val (.int e_2), .val (.ref b6), .val (.ref b7), .val (.ref b8), .val (.ref b7), .val (.ref bp)] [(.int (0 : Int32)), (.ref bp)])) _
    refine st19.trans ?_
    show Steps p.tables e below (T19.setTop (mkF m 171 #[.val (.int p1), .val (.int p2), .val (.int p3), .val (.int p4), .val (.int p5), .val (.int (2 : Int32)), .val (.int wk), .val (.int e_0), .val (.int e_1), .val (.int e_2), .val (.ref b6), .val (.ref b7), .val (.ref b8), .val (.ref b7), .val (.ref bp)] [(.int e_0)])) _
    refine XS.iload X19.here hx rfl (hb hby at_171) rfl ?_
    show Steps p.tables e below (T19.setTop (mkF m 173 #[.val (.int p1), .val (.int p2), .val (.int p3), .val (.int p4), .val (.int p5), .val (.int (2 : Int32)), .val (.int wk), .val (.int e_0), .val (.int e_1), .val (.int e_2), .val (.ref b6), .val (.ref b7), .val (.ref b8), .val (.ref b7), .val (.ref bp)] [(.int e_0), (.int e_0)])) _
    refine XS.icmpYes X19.here hx rfl (pc0 := 173) (pc' := 178) rfl (hb hby at_173) rfl (teq (rfl : e_0 = e_0)).1 (by decide) (by decide) ?_
    show Steps p.tables e below (T19.setTop (mkF m 178 #[.val (.int p1), .val (.int p2), .val (.int p3), .val (.int p4), .val (.int p5), .val (.int (2 : Int32)), .val (.int wk), .val (.int e_0), .val (.int e_1), .val (.int e_2), .val (.ref b6), .val (.ref b7), .val (.ref b8), .val (.ref b7), .val (.ref bp)] [])) _
    refine XS.iload X19.here hx rfl (hb hby at_178) rfl ?_
    show Steps p.tables e below (T19.setTop (mkF m 180 #[.val (.int p1), .val (.int p2), .val (.int p3), .val (.int p4), .val (.int p5), .val (.int (2 : Int32)), .val (.int wk), .val (.int e_0), .val (.int e_1), .val (.int e_2), .val (.ref b6), .val (.ref b7), .val (.ref b8), .val (.ref b7), .val (.ref bp)] [(.int (2 : Int32))])) _
    refine XS.iconst X19.here hx rfl (hb hby at_180) ?_
    show Steps p.tables e below (T19.setTop (mkF m 181 #[.val (.int p1), .val (.int p2), .val (.int p3), .val (.int p4), .val (.int p5), .val (.int (2 : Int32)), .val (.int wk), .val (.int e_0), .val (.int e_1), .val (.int e_2), .val (.ref b6), .val (.ref b7), .val (.ref b8), .val (.ref b7), .val (.ref bp)] [(.int (2 : Int32)), (.int (2 : Int32))])) _
    refine XS.icmpNo X19.here hx rfl (hb hby at_181) rfl (flt hc181).1 ?_
    show Steps p.tables e below (T19.setTop (mkF m 184 #[.val (.int p1), .val (.int p2), .val (.int p3), .val (.int p4), .val (.int p5), .val (.int (2 : Int32)), .val (.int wk), .val (.int e_0), .val (.int e_1), .val (.int e_2), .val (.ref b6), .val (.ref b7), .val (.ref b8), .val (.ref b7), .val (.ref bp)] [])) _
    refine XS.aload X19.here hx rfl (hb hby at_184) rfl rfl ?_
    show Steps p.tables e below (T19.setTop (mkF m 186 #[.val (.int p1), .val (.int p2), .val (.int p3), .val (.int p4), .val (.int p5), .val (.int (2 : Int32)), .val (.int wk), .val (.int e_0), .val (.int e_1), .val (.int e_2), .val (.ref b6), .val (.ref b7), .val (.ref b8), .val (.ref b7), .val (.ref bp)] [(.ref bp)])) _
    refine XS.iconst X19.here hx rfl (hb hby at_186) ?_
    show Steps p.tables e below (T19.setTop (mkF m 187 #[.val (.int p1), .val (.int p2), .val (.int p3), .val (.int p4), .val (.int p5), .val (.int (2 : Int32)), .val (.int wk), .val (.int e_0), .val (.int e_1), .val (.int e_2), .val (.ref b6), .val (.ref b7), .val (.ref b8), .val (.ref b7), .val (.ref bp)] [(.int (1 : Int32)), (.ref bp)])) _
    refine st20.trans ?_
    show Steps p.tables e below (T20.setTop (mkF m 190 #[.val (.int p1), .val (.int p2), .val (.int p3), .val (.int p4), .val (.int p5), .val (.int (2 : Int32)), .val (.int wk), .val (.int e_0), .val (.int e_1), .val (.int e_2), .val (.ref b6), .val (.ref b7), .val (.ref b8), .val (.ref b7), .val (.ref bp)] [(.int e_1)])) _
    refine XS.iload X20.here hx rfl (hb hby at_190) rfl ?_
    show Steps p.tables e below (T20.setTop (mkF m 192 #[.val (.int p1), .val (.int p2), .val (.int p3), .val (.int p4), .val (.int p5), .val (.int (2 : Int32)), .val (.int wk), .val (.int e_0), .val (.int e_1), .val (.int e_2), .val (.ref b6), .val (.ref b7), .val (.ref b8), .val (.ref b7), .val (.ref bp)] [(.int e_1), (.int e_1)])) _
    refine XS.icmpYes X20.here hx rfl (pc0 := 192) (pc' := 197) rfl (hb hby at_192) rfl (teq (rfl : e_1 = e_1)).1 (by decide) (by decide) ?_
    show Steps p.tables e below (T20.setTop (mkF m 197 #[.val (.int p1), .val (.int p2), .val (.int p3), .val (.int p4), .val (.int p5), .val (.int (2 : Int32)), .val (.int wk), .val (.int e_0), .val (.int e_1), .val (.int e_2), .val (.ref b6), .val (.ref b7), .val (.ref b8), .val (.ref b7), .val (.ref bp)] [])) _
    refine XS.iload X20.here hx rfl (hb hby at_197) rfl ?_
    show Steps p.tables e below (T20.setTop (mkF m 199 #[.val (.int p1), .val (.int p2), .val (.int p3), .val (.int p4), .val (.int p5), .val (.int (2 : Int32)), .val (.int wk), .val (.int e_0), .val (.int e_1), .val (.int e_2), .val (.ref b6), .val (.ref b7), .val (.ref b8), .val (.ref b7), .val (.ref bp)] [(.int (2 : Int32))])) _
    refine XS.iconst X20.here hx rfl (hb hby at_199) ?_
    show Steps p.tables e below (T20.setTop (mkF m 200 #[.val (.int p1), .val (.int p2), .val (.int p3), .val (.int p4), .val (.int p5), .val (.int (2 : Int32)), .val (.int wk), .val (.int e_0), .val (.int e_1), .val (.int e_2), .val (.ref b6), .val (.ref b7), .val (.ref b8), .val (.ref b7), .val (.ref bp)] [(.int (3 : Int32)), (.int (2 : Int32))])) _
    refine XS.icmpYes X20.here hx rfl (pc0 := 200) (pc' := 216) rfl (hb hby at_200) rfl (tlt hc200).1 (by decide) (by decide) ?_
    show Steps p.tables e below (T20.setTop (mkF m 216 #[.val (.int p1), .val (.int p2), .val (.int p3), .val (.int p4), .val (.int p5), .val (.int (2 : Int32)), .val (.int wk), .val (.int e_0), .val (.int e_1), .val (.int e_2), .val (.ref b6), .val (.ref b7), .val (.ref b8), .val (.ref b7), .val (.ref bp)] [])) _
    refine XS.iconst X20.here hx rfl (hb hby at_216) ?_
    show Steps p.tables e below (T20.setTop (mkF m 217 #[.val (.int p1), .val (.int p2), .val (.int p3), .val (.int p4), .val (.int p5), .val (.int (2 : Int32)), .val (.int wk), .val (.int e_0), .val (.int e_1), .val (.int e_2), .val (.ref b6), .val (.ref b7), .val (.ref b8), .val (.ref b7), .val (.ref bp)] [(.int (1 : Int32))])) _
    exact retN X20 hx (t := .boolean) Bd.returns (by simp) (hb hby at_217) hr
  · show Q0 Z p1 p2 p3 p4 p5 h0 n0 _ T20.heap _
    exact ⟨rfl, N20⟩

set_option maxRecDepth 65536 in
set_option maxHeartbeats 40000000 in
theorem rm0_3 (l : Launch) (Z : State) (a0 : Array Value) (hw : ∀ d ∈ tables_1, d.before a0 Z = true) (ws : List Jvm.Cond) (p1 : Int32) (p2 : Int32) (p3 : Int32) (p4 : Int32) (p5 : Int32) (h0 : Heap) (n0 : Nat) (Z0 : n0 ≤ h0.size) (hL : (((p1 &&& (2147483647 : Int32)) % (3 : Int32)) + (1 : Int32)) = (3 : Int32)) (hc103 : ¬ ((3 : Int32) = (1 : Int32))) (hc114 : ¬ ((3 : Int32) = (2 : Int32))) (hc181 : ¬ ((3 : Int32) < (2 : Int32))) (hc200 : ¬ ((3 : Int32) < (3 : Int32))) :
    MetFree l x (head1 (Jvm.Cond.code x code maxLocals ret :: ws) room_1) (fun a U => a = #[(.int p1), (.int p2), (.int p3), (.int p4), (.int p5)] ∧ Z.Warmed39 U.vm ∧ U.heap = h0) (fun _ _ _ _ _ => True) (fun _ U o U' => ∃ v L, o = .returned v ∧ Q0 Z p1 p2 p3 p4 p5 h0 n0 v U'.heap L ∧ FrameEnd U o U' L room_1.cells room_1.slots) := by
  refine MetFree.of_bodySF (plainFor_of_name pn_0) hisR ?_
  intro p e s m args below meth c s₁ Bd hml0 hP hK
  obtain ⟨rfl, hZ, hh⟩ := hP
  have hx := Bd.exec
  have hby := Bd.bytes
  have hml : c.maxLocals = 15 := hml0
  have hown : s.vm.findClass "com/example/ballast/ballast/PlacementOfPinLaw" = some m.cls := findClass_of_methodNamed Bd.named
  have hnm := (name_of_methodNamed Bd.named Bd.method).1
  have X0 : Stand p l e room_1 s m #[(.int p1), (.int p2), (.int p3), (.int p4), (.int p5)] below meth c s₁ [] 0 0 := Stand.of_body Bd
  have e0 : s₁.heap = h0 := by rw [← hh, Bd.state]; rfl
  have N0 := Fr.nil n0
  have pre0 : ∀ t, Steps p.tables e below (s₁.setTop (mkF m 0 #[.val (.int p1), .val (.int p2), .val (.int p3), .val (.int p4), .val (.int p5), .unset, .unset, .unset, .unset, .unset, .unset, .unset, .unset, .unset, .unset] [])) t → Steps p.tables e below (s₁.setTop (entryFrame m #[(.int p1), (.int p2), (.int p3), (.int p4), (.int p5)] maxLocals)) t := fun t k => castTop (ef_0 m p1 p2 p3 p4 p5) k
  obtain ⟨wk, hWk, hw1, hw2, hw0⟩ := own_w p2 (3 : Int32) (by decide) (by decide)
  obtain ⟨e_0, hE0, hl0, hh0⟩ := own_e p3 wk hw0
  obtain ⟨e_1, hE1, hl1, hh1⟩ := own_e p4 wk hw0
  obtain ⟨e_2, hE2, hl2, hh2⟩ := own_e p5 wk hw0
  obtain ⟨T6, h6, k6, X6, e6, E6, A6, st6⟩ := newP X0 hx hZ (hw _ (List.mem_of_getElem? (i := 1) rfl)) e0 (g := (mkF m 50 #[.val (.int p1), .val (.int p2), .val (.int p3), .val (.int p4), .val (.int p5), .val (.int (3 : Int32)), .val (.int wk), .val (.int e_0), .val (.int e_1), .val (.int e_2), .unset, .unset, .unset, .unset, .unset] [(.int (1 : Int32))])) rfl (hb hby at_50) rfl (by decide) (cap := 1) (by decide) (by decide) (by decide) (by decide)
  obtain ⟨b6, g6⟩ : ∃ z, z = h0.size := ⟨_, rfl⟩
  rw [← g6] at A6 st6
  have V_b6 : Arv Z h6 b6 k6 .int (1 : Int32) [(.int (0 : Int32))] (.int (0 : Int32)) := (Arv.new A6 (by decide)).pad (pad_rep [] (.int (0 : Int32)) 1)
  have g_b6 : n0 ≤ b6 := Nat.le_trans Z0 (Nat.le_of_eq g6.symm)
  have sz_b6 : h0.size ≤ b6 := (Nat.le_trans (Keep.refl h0 []).1 (Nat.le_of_eq g6.symm))
  have K6 : Keep h0 h6 [] := (Keep.refl h0 []).ext E6
  obtain ⟨T7, h7, k7, X7, e7, E7, A7, st7⟩ := newP X6 hx hZ (hw _ (List.mem_of_getElem? (i := 1) rfl)) e6 (g := (mkF m 55 #[.val (.int p1), .val (.int p2), .val (.int p3), .val (.int p4), .val (.int p5), .val (.int (3 : Int32)), .val (.int wk), .val (.int e_0), .val (.int e_1), .val (.int e_2), .val (.ref b6), .unset, .unset, .unset, .unset] [(.int (2 : Int32))])) rfl (hb hby at_55) rfl (by decide) (cap := 2) (by decide) (by decide) (by decide) (by decide)
  obtain ⟨b7, g7⟩ : ∃ z, z = h6.size := ⟨_, rfl⟩
  rw [← g7] at A7 st7
  have V_b7 : Arv Z h7 b7 k7 .int (2 : Int32) [(.int (0 : Int32)), (.int (0 : Int32))] (.int (0 : Int32)) := (Arv.new A7 (by decide)).pad (pad_rep [] (.int (0 : Int32)) 2)
  have g_b7 : n0 ≤ b7 := Nat.le_trans (Nat.le_trans Z0 E6.1) (Nat.le_of_eq g7.symm)
  have sz_b7 : h0.size ≤ b7 := (Nat.le_trans K6.1 (Nat.le_of_eq g7.symm))
  have K7 : Keep h0 h7 [] := K6.ext E7
  obtain ⟨T8, h8, k8, X8, e8, E8, A8, B8, st8⟩ := newPE X7 hx hZ (hw _ (List.mem_of_getElem? (i := 1) rfl)) e7 (g := (mkF m 60 #[.val (.int p1), .val (.int p2), .val (.int p3), .val (.int p4), .val (.int p5), .val (.int (3 : Int32)), .val (.int wk), .val (.int e_0), .val (.int e_1), .val (.int e_2), .val (.ref b6), .val (.ref b7), .unset, .unset, .unset] [(.int (3 : Int32))])) rfl (hb hby at_60) rfl (by decide) (cap := 3) (by decide) (by decide) (by decide) (by decide) (ad := "[I") rfl
  obtain ⟨b8, g8⟩ : ∃ z, z = h7.size := ⟨_, rfl⟩
  rw [← g8] at A8 B8 st8
  have V_b8 : Arv Z h8 b8 k8 .int (3 : Int32) [(.int (0 : Int32)), (.int (0 : Int32)), (.int (0 : Int32))] (.int (0 : Int32)) := (Arv.new A8 (by decide)).pad (pad_rep [] (.int (0 : Int32)) 3)
  have g_b8 : n0 ≤ b8 := Nat.le_trans (Nat.le_trans (Nat.le_trans Z0 E6.1) E7.1) (Nat.le_of_eq g8.symm)
  have sz_b8 : h0.size ≤ b8 := (Nat.le_trans K7.1 (Nat.le_of_eq g8.symm))
  have K8 : Keep h0 h8 [] := K7.ext E8
  have ne67 : b6 ≠ b7 := Nat.ne_of_lt (by rw [g7]; exact V_b6.lt)
  have ne78 : b7 ≠ b8 := Nat.ne_of_lt (by rw [g8]; exact V_b7.lt)
  have ne68 : b6 ≠ b8 := Nat.ne_of_lt (by rw [g8]; exact (V_b6.ext E7).lt)
  obtain ⟨cl_b6_69, Ar_b6, q_b6, S_b6, N_b6, H_b6, G_b6⟩ := ((V_b6.ext E7).ext E8)
  have hin69 : ¬ ((0 : Int32) < 0 ∨ cl_b6_69.slots.size ≤ ((0 : Int32)).toNatClampNeg) := inb_of S_b6 ⟨by decide, by decide⟩
  obtain ⟨T9, h9, X9, e9, W9, st9⟩ := stI X8 hx hZ e8 Ar_b6 (j := (0 : Int32)) hin69 (g := (mkF m 69 #[.val (.int p1), .val (.int p2), .val (.int p3), .val (.int p4), .val (.int p5), .val (.int (3 : Int32)), .val (.int wk), .val (.int e_0), .val (.int e_1), .val (.int e_2), .val (.ref b6), .val (.ref b7), .val (.ref b8), .unset, .unset] [(.int e_0), (.int (0 : Int32)), (.ref b6)])) rfl rfl (hb hby at_69)
  have V_b6_9 := Arv.set Ar_b6 q_b6 S_b6 N_b6 H_b6 G_b6 rfl W9 0 rfl (Nat.le_of_ble_eq_true rfl)
  have K9 : Keep h0 h9 [] := K8.wr W9 (Or.inr sz_b6)
  have N9 := Fr.snoc X9 N0 g_b6
  obtain ⟨cl_b7_75, Ar_b7, q_b7, S_b7, N_b7, H_b7, G_b7⟩ := ((V_b7.ext E8).other W9 (Ne.symm ne67))
  have hin75 : ¬ ((0 : Int32) < 0 ∨ cl_b7_75.slots.size ≤ ((0 : Int32)).toNatClampNeg) := inb_of S_b7 ⟨by decide, by decide⟩
  obtain ⟨T10, h10, X10, e10, W10, st10⟩ := stI X9 hx hZ e9 Ar_b7 (j := (0 : Int32)) hin75 (g := (mkF m 75 #[.val (.int p1), .val (.int p2), .val (.int p3), .val (.int p4), .val (.int p5), .val (.int (3 : Int32)), .val (.int wk), .val (.int e_0), .val (.int e_1), .val (.int e_2), .val (.ref b6), .val (.ref b7), .val (.ref b8), .unset, .unset] [(.int e_0), (.int (0 : Int32)), (.ref b7)])) rfl rfl (hb hby at_75)
  have V_b7_10 := Arv.set Ar_b7 q_b7 S_b7 N_b7 H_b7 G_b7 rfl W10 0 rfl (Nat.le_of_ble_eq_true rfl)
  have K10 : Keep h0 h10 [] := K9.wr W10 (Or.inr sz_b7)
  have N10 := Fr.snoc X10 N9 g_b7
  obtain ⟨cl_b7_81, Ar_b7, q_b7, S_b7, N_b7, H_b7, G_b7⟩ := V_b7_10
  have hin81 : ¬ ((1 : Int32) < 0 ∨ cl_b7_81.slots.size ≤ ((1 : Int32)).toNatClampNeg) := inb_of S_b7 ⟨by decide, by decide⟩
  obtain ⟨T11, h11, X11, e11, W11, st11⟩ := stI X10 hx hZ e10 Ar_b7 (j := (1 : Int32)) hin81 (g := (mkF m 81 #[.val (.int p1), .val (.int p2), .val (.int p3), .val (.int p4), .val (.int p5), .val (.int (3 : Int32)), .val (.int wk), .val (.int e_0), .val (.int e_1), .val (.int e_2), .val (.ref b6), .val (.ref b7), .val (.ref b8), .unset, .unset] [(.int e_1), (.int (1 : Int32)), (.ref b7)])) rfl rfl (hb hby at_81)
  have V_b7_11 := Arv.set Ar_b7 q_b7 S_b7 N_b7 H_b7 G_b7 rfl W11 1 rfl (Nat.le_of_ble_eq_true rfl)
  have K11 : Keep h0 h11 [] := K10.wr W11 (Or.inr sz_b7)
  have N11 := Fr.snoc X11 N10 g_b7
  obtain ⟨cl_b8_87, Ar_b8, q_b8, S_b8, N_b8, H_b8, G_b8⟩ := (((V_b8.other W9 (Ne.symm ne68)).other W10 (Ne.symm ne78)).other W11 (Ne.symm ne78))
  have hin87 : ¬ ((0 : Int32) < 0 ∨ cl_b8_87.slots.size ≤ ((0 : Int32)).toNatClampNeg) := inb_of S_b8 ⟨by decide, by decide⟩
  obtain ⟨T12, h12, X12, e12, W12, st12⟩ := stI X11 hx hZ e11 Ar_b8 (j := (0 : Int32)) hin87 (g := (mkF m 87 #[.val (.int p1), .val (.int p2), .val (.int p3), .val (.int p4), .val (.int p5), .val (.int (3 : Int32)), .val (.int wk), .val (.int e_0), .val (.int e_1), .val (.int e_2), .val (.ref b6), .val (.ref b7), .val (.ref b8), .unset, .unset] [(.int e_0), (.int (0 : Int32)), (.ref b8)])) rfl rfl (hb hby at_87)
  have V_b8_12 := Arv.set Ar_b8 q_b8 S_b8 N_b8 H_b8 G_b8 rfl W12 0 rfl (Nat.le_of_ble_eq_true rfl)
  have K12 : Keep h0 h12 [] := K11.wr W12 (Or.inr sz_b8)
  have N12 := Fr.snoc X12 N11 g_b8
  obtain ⟨cl_b8_93, Ar_b8, q_b8, S_b8, N_b8, H_b8, G_b8⟩ := V_b8_12
  have hin93 : ¬ ((1 : Int32) < 0 ∨ cl_b8_93.slots.size ≤ ((1 : Int32)).toNatClampNeg) := inb_of S_b8 ⟨by decide, by decide⟩
  obtain ⟨T13, h13, X13, e13, W13, st13⟩ := stI X12 hx hZ e12 Ar_b8 (j := (1 : Int32)) hin93 (g := (mkF m 93 #[.val (.int p1), .val (.int p2), .val (.int p3), .val (.int p4), .val (.int p5), .val (.int (3 : Int32)), .val (.int wk), .val (.int e_0), .val (.int e_1), .val (.int e_2), .val (.ref b6), .val (.ref b7), .val (.ref b8), .unset, .unset] [(.int e_1), (.int (1 : Int32)), (.ref b8)])) rfl rfl (hb hby at_93)
  have V_b8_13 := Arv.set Ar_b8 q_b8 S_b8 N_b8 H_b8 G_b8 rfl W13 1 rfl (Nat.le_of_ble_eq_true rfl)
  have K13 : Keep h0 h13 [] := K12.wr W13 (Or.inr sz_b8)
  have N13 := Fr.snoc X13 N12 g_b8
  obtain ⟨cl_b8_99, Ar_b8, q_b8, S_b8, N_b8, H_b8, G_b8⟩ := V_b8_13
  have hin99 : ¬ ((2 : Int32) < 0 ∨ cl_b8_99.slots.size ≤ ((2 : Int32)).toNatClampNeg) := inb_of S_b8 ⟨by decide, by decide⟩
  obtain ⟨T14, h14, X14, e14, W14, st14⟩ := stI X13 hx hZ e13 Ar_b8 (j := (2 : Int32)) hin99 (g := (mkF m 99 #[.val (.int p1), .val (.int p2), .val (.int p3), .val (.int p4), .val (.int p5), .val (.int (3 : Int32)), .val (.int wk), .val (.int e_0), .val (.int e_1), .val (.int e_2), .val (.ref b6), .val (.ref b7), .val (.ref b8), .unset, .unset] [(.int e_2), (.int (2 : Int32)), (.ref b8)])) rfl rfl (hb hby at_99)
  have V_b8_14 := Arv.set Ar_b8 q_b8 S_b8 N_b8 H_b8 G_b8 rfl W14 2 rfl (Nat.le_of_ble_eq_true rfl)
  have K14 : Keep h0 h14 [] := K13.wr W14 (Or.inr sz_b8)
  have N14 := Fr.snoc X14 N13 g_b8
  have VN : Arv Z h14 b8 k8 .int (3 : Int32) [(.int e_0), (.int e_1), (.int e_2)] (.int (0 : Int32)) := V_b8_14
  have Z14 : n0 ≤ h14.size := Nat.le_trans Z0 K14.1
  obtain ⟨_, _, ⟨T15, L15, k15, n15⟩, -, X15, ⟨Lc15, hQ15, l15, y15, z15⟩, st15⟩ := Jvm.LawKit.callS X14 hx (y := (⟨"com/example/ballast/ballast/Placement", "of", "(I[I)Lcom/example/ballast/ballast/Placement;"⟩ : MethodName)) hown (mvT hZ (hw _ (List.mem_of_getElem? (i := 2) rfl))) (mvT hZ (hw _ (List.mem_of_getElem? (i := 3) rfl))) (mvT hZ (hw _ (List.mem_of_getElem? (i := 4) rfl))) (mvT hZ (hw _ (List.mem_of_getElem? (i := 5) rfl))) (by decide) (backOf (W := 0) (rm1_3 l Z a0 hw [] wk b8 _ e_0 e_1 e_2 h14 n0 Z14 VN ((((((B8.wr W9).wr W10).wr W11).wr W12).wr W13).wr W14) hw1 hw2 hl0 hh0 hl1 hh1 hl2 hh2) hZ (hw _ (List.mem_of_getElem? (i := 5) rfl)) (hw _ (List.mem_of_getElem? (i := 4) rfl)) (by decide) (by decide)) (g := (mkF m 130 #[.val (.int p1), .val (.int p2), .val (.int p3), .val (.int p4), .val (.int p5), .val (.int (3 : Int32)), .val (.int wk), .val (.int e_0), .val (.int e_1), .val (.int e_2), .val (.ref b6), .val (.ref b7), .val (.ref b8), .val (.ref b8), .unset] [(.ref b8), (.int wk)])) rfl (by rw [hml]; rfl) (argsL := [(.int wk), (.ref b8)]) (rest := []) (lenOf pd_0_0 rfl) rfl (by show 2 * 0 + _ ≤ _; exact Nat.le_of_eq rfl) (hb hby at_130) (fun _ _ => ⟨rfl, e14, (by decide : 3 + 2 ≤ _), (by decide : 6 + 5 ≤ _)⟩)
  dsimp only [Pt.U, Pt.locs, Pt.cells, Pt.slots] at X15 l15 y15 z15 st15 hQ15
  subst l15 y15 z15
  obtain ⟨bp, bq, rfl, N15q, K15, gp, gq, Ep, Fw, Fo, Vq⟩ := hQ15
  have N15 := Fr.app N14 N15q
  obtain ⟨cl_b8_140, Ar_b8, q_b8, S_b8, N_b8, H_b8, G_b8⟩ := VN.keep K15 nin0
  have hin140 : ¬ ((0 : Int32) < 0 ∨ cl_b8_140.slots.size ≤ ((0 : Int32)).toNatClampNeg) := inb_of S_b8 ⟨by decide, by decide⟩
  obtain ⟨T16, h16, X16, e16, W16, st16⟩ := stI X15 hx hZ rfl Ar_b8 (j := (0 : Int32)) hin140 (g := (mkF m 140 #[.val (.int p1), .val (.int p2), .val (.int p3), .val (.int p4), .val (.int p5), .val (.int (3 : Int32)), .val (.int wk), .val (.int e_0), .val (.int e_1), .val (.int e_2), .val (.ref b6), .val (.ref b7), .val (.ref b8), .val (.ref b8), .val (.ref bp)] [(.int wk), (.int (0 : Int32)), (.ref b8)])) rfl rfl (hb hby at_140)
  have V_b8_16 := Arv.set Ar_b8 q_b8 S_b8 N_b8 H_b8 G_b8 rfl W16 0 rfl (Nat.le_of_ble_eq_true rfl)
  have K16 : Keep h0 h16 [] := (K14.trans K15 all0).wr W16 (Or.inr sz_b8)
  have N16 := Fr.snoc X16 N15 g_b8
  have nep : bp ≠ b8 := Nat.ne_of_gt (Nat.lt_of_lt_of_le VN.lt gp)
  have neq : bq ≠ b8 := Nat.ne_of_gt (Nat.lt_of_lt_of_le VN.lt gq)
  have Z16 : n0 ≤ h16.size := Nat.le_trans Z0 K16.1
  have Ep16 := Ep.wr W16
  have Fw16 := Fw.other W16 (Or.inl nep)
  have Fo16 := Fo.other W16 (Or.inl nep)
  obtain ⟨clq, Arq, qq, Sq, Nq, Hq, Gq⟩ := Vq.other W16 neq
  have hiq0 : ¬ ((0 : Int32) < 0 ∨ clq.slots.size ≤ ((0 : Int32)).toNatClampNeg) := inb_of Sq ⟨by decide, by decide⟩
  have haq0 : clq.slots[((0 : Int32)).toNatClampNeg]? = some (.int e_0) := Hq.at hiq0 rfl
  have hiq1 : ¬ ((1 : Int32) < 0 ∨ clq.slots.size ≤ ((1 : Int32)).toNatClampNeg) := inb_of Sq ⟨by decide, by decide⟩
  have haq1 : clq.slots[((1 : Int32)).toNatClampNeg]? = some (.int e_1) := Hq.at hiq1 rfl
  have hiq2 : ¬ ((2 : Int32) < 0 ∨ clq.slots.size ≤ ((2 : Int32)).toNatClampNeg) := inb_of Sq ⟨by decide, by decide⟩
  have haq2 : clq.slots[((2 : Int32)).toNatClampNeg]? = some (.int e_2) := Hq.at hiq2 rfl
  obtain ⟨cq17, kq17, q17a, q17b, q17c⟩ := isOf hZ e16 (Ep16)
  obtain ⟨_, _, ⟨T17, L17, k17, n17⟩, -, X17, ⟨Lc17, hQ17, l17, y17, z17⟩, st17⟩ := X16.virtualBack hx (y := (⟨"com/example/ballast/ballast/Placement", "partitions", "()I"⟩ : MethodName)) (z := (⟨"com/example/ballast/ballast/Placement", "partitions", "()I"⟩ : MethodName)) hown (mvT hZ (hw _ (List.mem_of_getElem? (i := 30) rfl))) (mvT hZ (hw _ (List.mem_of_getElem? (i := 31) rfl))) (notFace_of_selects (args := #[]) (mvT hZ (hw _ (List.mem_of_getElem? (i := 33) rfl)))) (mvT hZ (hw _ (List.mem_of_getElem? (i := 33) rfl))) (mvT hZ (hw _ (List.mem_of_getElem? (i := 32) rfl))) (by decide) (backOf (W := 0) (rm5 l Z a0 hw [] bp bq clq (3 : Int32) h16 n0 Z16 Fo16 Arq Sq Nq) hZ (hw _ (List.mem_of_getElem? (i := 34) rfl)) (hw _ (List.mem_of_getElem? (i := 4) rfl)) (by decide) (by decide)) q17a q17c (g := (mkF m 143 #[.val (.int p1), .val (.int p2), .val (.int p3), .val (.int p4), .val (.int p5), .val (.int (3 : Int32)), .val (.int wk), .val (.int e_0), .val (.int e_1), .val (.int e_2), .val (.ref b6), .val (.ref b7), .val (.ref b8), .val (.ref b8), .val (.ref bp)] [(.ref bp)])) rfl (by rw [hml]; rfl) (Steps.refl _) (argsL := []) (rest := []) (lenOf pd_0_5 rfl) rfl (by show 2 * 0 + _ ≤ _; exact Nat.le_of_eq rfl) (hb hby at_143) (fun _ _ => ⟨rfl, e16, (by decide : 5 + 0 ≤ _), (by decide : 11 + 0 ≤ _)⟩)
  dsimp only [Pt.U, Pt.locs, Pt.cells, Pt.slots] at X17 l17 y17 z17 st17 hQ17
  subst l17 y17 z17
  obtain ⟨rfl, N17q, e17⟩ := hQ17
  have N17 := Fr.app N16 N17q
  obtain ⟨cq18, kq18, q18a, q18b, q18c⟩ := isOf hZ e17 (Ep16)
  obtain ⟨_, _, ⟨T18, L18, k18, n18⟩, -, X18, ⟨Lc18, hQ18, l18, y18, z18⟩, st18⟩ := X17.virtualBack hx (y := (⟨"com/example/ballast/ballast/Placement", "workers", "()I"⟩ : MethodName)) (z := (⟨"com/example/ballast/ballast/Placement", "workers", "()I"⟩ : MethodName)) hown (mvT hZ (hw _ (List.mem_of_getElem? (i := 35) rfl))) (mvT hZ (hw _ (List.mem_of_getElem? (i := 36) rfl))) (notFace_of_selects (args := #[]) (mvT hZ (hw _ (List.mem_of_getElem? (i := 38) rfl)))) (mvT hZ (hw _ (List.mem_of_getElem? (i := 38) rfl))) (mvT hZ (hw _ (List.mem_of_getElem? (i := 37) rfl))) (by decide) (backOf (W := 0) (rm6 l Z a0 hw [] bp wk h16 n0 Z16 Fw16) hZ (hw _ (List.mem_of_getElem? (i := 39) rfl)) (hw _ (List.mem_of_getElem? (i := 4) rfl)) (by decide) (by decide)) q18a q18c (g := (mkF m 155 #[.val (.int p1), .val (.int p2), .val (.int p3), .val (.int p4), .val (.int p5), .val (.int (3 : Int32)), .val (.int wk), .val (.int e_0), .val (.int e_1), .val (.int e_2), .val (.ref b6), .val (.ref b7), .val (.ref b8), .val (.ref b8), .val (.ref bp)] [(.ref bp)])) rfl (by rw [hml]; rfl) (Steps.refl _) (argsL := []) (rest := []) (lenOf pd_0_5 rfl) rfl (by show 2 * 0 + _ ≤ _; exact Nat.le_of_eq rfl) (hb hby at_155) (fun _ _ => ⟨rfl, e17, (by decide : 5 + 0 ≤ _), (by decide : 11 + 0 ≤ _)⟩)
  dsimp only [Pt.U, Pt.locs, Pt.cells, Pt.slots] at X18 l18 y18 z18 st18 hQ18
  subst l18 y18 z18
  obtain ⟨rfl, N18q, e18⟩ := hQ18
  have N18 := Fr.app N17 N18q
  obtain ⟨cq19, kq19, q19a, q19b, q19c⟩ := isOf hZ e18 (Ep16)
  obtain ⟨_, _, ⟨T19, L19, k19, n19⟩, -, X19, ⟨Lc19, hQ19, l19, y19, z19⟩, st19⟩ := X18.virtualBack hx (y := (⟨"com/example/ballast/ballast/Placement", "workerOf", "(I)I"⟩ : MethodName)) (z := (⟨"com/example/ballast/ballast/Placement", "workerOf", "(I)I"⟩ : MethodName)) hown (mvT hZ (hw _ (List.mem_of_getElem? (i := 40) rfl))) (mvT hZ (hw _ (List.mem_of_getElem? (i := 41) rfl))) (notFace_of_selects (args := #[]) (mvT hZ (hw _ (List.mem_of_getElem? (i := 43) rfl)))) (mvT hZ (hw _ (List.mem_of_getElem? (i := 43) rfl))) (mvT hZ (hw _ (List.mem_of_getElem? (i := 42) rfl))) (by decide) (backOf (W := 0) (rm7 l Z a0 hw [] bp (0 : Int32) bq e_0 clq h16 n0 Z16 Fo16 Arq hiq0 haq0) hZ (hw _ (List.mem_of_getElem? (i := 44) rfl)) (hw _ (List.mem_of_getElem? (i := 4) rfl)) (by decide) (by decide)) q19a q19c (g := (mkF m 168 #[.val (.int p1), .val (.int p2), .val (.int p3), .val (.int p4), .val (.int p5), .val (.int (3 : Int32)), .val (.int wk), .val (.int e_0), .val (.int e_1), .val (.int e_2), .val (.ref b6), .val (.ref b7), .val (.ref b8), .val (.ref b8), .val (.ref bp)] [(.int (0 : Int32)), (.ref bp)])) rfl (by rw [hml]; rfl) (Steps.refl _) (argsL := [(.int (0 : Int32))]) (rest := []) (lenOf pd_0_6 rfl) rfl (by show 2 * 0 + _ ≤ _; exact Nat.le_of_eq rfl) (hb hby at_168) (fun _ _ => ⟨rfl, e18, (by decide : 5 + 0 ≤ _), (by decide : 11 + 0 ≤ _)⟩)
  dsimp only [Pt.U, Pt.locs, Pt.cells, Pt.slots] at X19 l19 y19 z19 st19 hQ19
  subst l19 y19 z19
  obtain ⟨rfl, N19q, e19⟩ := hQ19
  have N19 := Fr.app N18 N19q
  obtain ⟨cq20, kq20, q20a, q20b, q20c⟩ := isOf hZ e19 (Ep16)
  obtain ⟨_, _, ⟨T20, L20, k20, n20⟩, -, X20, ⟨Lc20, hQ20, l20, y20, z20⟩, st20⟩ := X19.virtualBack hx (y := (⟨"com/example/ballast/ballast/Placement", "workerOf", "(I)I"⟩ : MethodName)) (z := (⟨"com/example/ballast/ballast/Placement", "workerOf", "(I)I"⟩ : MethodName)) hown (mvT hZ (hw _ (List.mem_of_getElem? (i := 40) rfl))) (mvT hZ (hw _ (List.mem_of_getElem? (i := 41) rfl))) (notFace_of_selects (args := #[]) (mvT hZ (hw _ (List.mem_of_getElem? (i := 43) rfl)))) (mvT hZ (hw _ (List.mem_of_getElem? (i := 43) rfl))) (mvT hZ (hw _ (List.mem_of_getElem? (i := 42) rfl))) (by decide) (backOf (W := 0) (rm7 l Z a0 hw [] bp (1 : Int32) bq e_1 clq h16 n0 Z16 Fo16 Arq hiq1 haq1) hZ (hw _ (List.mem_of_getElem? (i := 44) rfl)) (hw _ (List.mem_of_getElem? (i := 4) rfl)) (by decide) (by decide)) q20a q20c (g := (mkF m 187 #[.val (.int p1), .val (.int p2), .val (.int p3), .val (.int p4), .val (.int p5), .val (.int (3 : Int32)), .val (.int wk), .val (.int e_0), .val (.int e_1), .val (.int e_2), .val (.ref b6), .val (.ref b7), .val (.ref b8), .val (.ref b8), .val (.ref bp)] [(.int (1 : Int32)), (.ref bp)])) rfl (by rw [hml]; rfl) (Steps.refl _) (argsL := [(.int (1 : Int32))]) (rest := []) (lenOf pd_0_6 rfl) rfl (by show 2 * 0 + _ ≤ _; exact Nat.le_of_eq rfl) (hb hby at_187) (fun _ _ => ⟨rfl, e19, (by decide : 5 + 0 ≤ _), (by decide : 11 + 0 ≤ _)⟩)
  dsimp only [Pt.U, Pt.locs, Pt.cells, Pt.slots] at X20 l20 y20 z20 st20 hQ20
  subst l20 y20 z20
  obtain ⟨rfl, N20q, e20⟩ := hQ20
  have N20 := Fr.app N19 N20q
  obtain ⟨cq21, kq21, q21a, q21b, q21c⟩ := isOf hZ e20 (Ep16)
  obtain ⟨_, _, ⟨T21, L21, k21, n21⟩, -, X21, ⟨Lc21, hQ21, l21, y21, z21⟩, st21⟩ := X20.virtualBack hx (y := (⟨"com/example/ballast/ballast/Placement", "workerOf", "(I)I"⟩ : MethodName)) (z := (⟨"com/example/ballast/ballast/Placement", "workerOf", "(I)I"⟩ : MethodName)) hown (mvT hZ (hw _ (List.mem_of_getElem? (i := 40) rfl))) (mvT hZ (hw _ (List.mem_of_getElem? (i := 41) rfl))) (notFace_of_selects (args := #[]) (mvT hZ (hw _ (List.mem_of_getElem? (i := 43) rfl)))) (mvT hZ (hw _ (List.mem_of_getElem? (i := 43) rfl))) (mvT hZ (hw _ (List.mem_of_getElem? (i := 42) rfl))) (by decide) (backOf (W := 0) (rm7 l Z a0 hw [] bp (2 : Int32) bq e_2 clq h16 n0 Z16 Fo16 Arq hiq2 haq2) hZ (hw _ (List.mem_of_getElem? (i := 44) rfl)) (hw _ (List.mem_of_getElem? (i := 4) rfl)) (by decide) (by decide)) q21a q21c (g := (mkF m 206 #[.val (.int p1), .val (.int p2), .val (.int p3), .val (.int p4), .val (.int p5), .val (.int (3 : Int32)), .val (.int wk), .val (.int e_0), .val (.int e_1), .val (.int e_2), .val (.ref b6), .val (.ref b7), .val (.ref b8), .val (.ref b8), .val (.ref bp)] [(.int (2 : Int32)), (.ref bp)])) rfl (by rw [hml]; rfl) (Steps.refl _) (argsL := [(.int (2 : Int32))]) (rest := []) (lenOf pd_0_6 rfl) rfl (by show 2 * 0 + _ ≤ _; exact Nat.le_of_eq rfl) (hb hby at_206) (fun _ _ => ⟨rfl, e20, (by decide : 5 + 0 ≤ _), (by decide : 11 + 0 ≤ _)⟩)
  dsimp only [Pt.U, Pt.locs, Pt.cells, Pt.slots] at X21 l21 y21 z21 st21 hQ21
  subst l21 y21 z21
  obtain ⟨rfl, N21q, e21⟩ := hQ21
  have N21 := Fr.app N20 N21q
  obtain ⟨fs, hr, hrun, hended, hW, hsame⟩ := X21.leave (v := some (.int (1 : Int32))) (fun h => by rw [Bd.returns] at h; cases h)
  refine ⟨_, _, pre0 _ ?_, hrun, hended, _, _, rfl, ?_, ⟨_, rfl⟩, hW, hsame.mono (by decide) (by decide)⟩
  · show Steps p.tables e below (s₁.setTop (mkF m 0 #[.val (.int p1), .val (.int p2), .val (.int p3), .val (.int p4), .val (.int p5), .unset, .unset, .unset, .unset, .unset, .unset, .unset, .unset, .unset, .unset] [])) _
    refine XS.iloadN X0.here hx rfl (hb hby at_0) rfl ?_
    show Steps p.tables e below (s₁.setTop (mkF m 1 #[.val (.int p1), .val (.int p2), .val (.int p3), .val (.int p4), .val (.int p5), .unset, .unset, .unset, .unset, .unset, .unset, .unset, .unset, .unset, .unset] [(.int p1)])) _
    refine X0.ldcInt hx hown (mvT hZ (hw _ (List.mem_of_getElem? (i := 0) rfl))) (g := (mkF m 1 #[.val (.int p1), .val (.int p2), .val (.int p3), .val (.int p4), .val (.int p5), .unset, .unset, .unset, .unset, .unset, .unset, .unset, .unset, .unset, .unset] [(.int p1)])) rfl (hb hby at_1) _ ?_
    show Steps p.tables e below (s₁.setTop (mkF m 3 #[.val (.int p1), .val (.int p2), .val (.int p3), .val (.int p4), .val (.int p5), .unset, .unset, .unset, .unset, .unset, .unset, .unset, .unset, .unset, .unset] [(.int (2147483647 : Int32)), (.int p1)])) _
    refine XS.iand X0.here hx rfl (hb hby at_3) rfl ?_
    show Steps p.tables e below (s₁.setTop (mkF m 4 #[.val (.int p1), .val (.int p2), .val (.int p3), .val (.int p4), .val (.int p5), .unset, .unset, .unset, .unset, .unset, .unset, .unset, .unset, .unset, .unset] [(.int (p1 &&& (2147483647 : Int32)))])) _
    refine XS.iconst X0.here hx rfl (hb hby at_4) ?_
    show Steps p.tables e below (s₁.setTop (mkF m 5 #[.val (.int p1), .val (.int p2), .val (.int p3), .val (.int p4), .val (.int p5), .unset, .unset, .unset, .unset, .unset, .unset, .unset, .unset, .unset, .unset] [(.int (3 : Int32)), (.int (p1 &&& (2147483647 : Int32)))])) _
    refine iremM X0 hx rfl (hb hby at_5) rfl (by decide) ?_
    show Steps p.tables e below (s₁.setTop (mkF m 6 #[.val (.int p1), .val (.int p2), .val (.int p3), .val (.int p4), .val (.int p5), .unset, .unset, .unset, .unset, .unset, .unset, .unset, .unset, .unset, .unset] [(.int ((p1 &&& (2147483647 : Int32)) % (3 : Int32)))])) _
    refine XS.iconst X0.here hx rfl (hb hby at_6) ?_
    show Steps p.tables e below (s₁.setTop (mkF m 7 #[.val (.int p1), .val (.int p2), .val (.int p3), .val (.int p4), .val (.int p5), .unset, .unset, .unset, .unset, .unset, .unset, .unset, .unset, .unset, .unset] [(.int (1 : Int32)), (.int ((p1 &&& (2147483647 : Int32)) % (3 : Int32)))])) _
    refine XS.iadd X0.here hx rfl (hb hby at_7) rfl ?_
    show Steps p.tables e below (s₁.setTop (mkF m 8 #[.val (.int p1), .val (.int p2), .val (.int p3), .val (.int p4), .val (.int p5), .unset, .unset, .unset, .unset, .unset, .unset, .unset, .unset, .unset, .unset] [(.int (((p1 &&& (2147483647 : Int32)) % (3 : Int32)) + (1 : Int32)))])) _
    rw [hL]
    show Steps p.tables e below (s₁.setTop (mkF m 8 #[.val (.int p1), .val (.int p2), .val (.int p3), .val (.int p4), .val (.int p5), .unset, .unset, .unset, .unset, .unset, .unset, .unset, .unset, .unset, .unset] [(.int (3 : Int32))])) _
    refine XS.istore X0.here hx rfl (hb hby at_8) rfl (l' := #[.val (.int p1), .val (.int p2), .val (.int p3), .val (.int p4), .val (.int p5), .val (.int (3 : Int32)), .unset, .unset, .unset, .unset, .unset, .unset, .unset, .unset, .unset]) rfl ?_
    show Steps p.tables e below (s₁.setTop (mkF m 10 #[.val (.int p1), .val (.int p2), .val (.int p3), .val (.int p4), .val (.int p5), .val (.int (3 : Int32)), .unset, .unset, .unset, .unset, .unset, .unset, .unset, .unset, .unset] [])) _
    refine XS.iloadN X0.here hx rfl (hb hby at_10) rfl ?_
    show Steps p.tables e below (s₁.setTop (mkF m 11 #[.val (.int p1), .val (.int p2), .val (.int p3), .val (.int p4), .val (.int p5), .val (.int (3 : Int32)), .unset, .unset, .unset, .unset, .unset, .unset, .unset, .unset, .unset] [(.int p2)])) _
    refine X0.ldcInt hx hown (mvT hZ (hw _ (List.mem_of_getElem? (i := 0) rfl))) (g := (mkF m 11 #[.val (.int p1), .val (.int p2), .val (.int p3), .val (.int p4), .val (.int p5), .val (.int (3 : Int32)), .unset, .unset, .unset, .unset, .unset, .unset, .unset, .unset, .unset] [(.int p2)])) rfl (hb hby at_11) _ ?_
    show Steps p.tables e below (s₁.setTop (mkF m 13 #[.val (.int p1), .val (.int p2), .val (.int p3), .val (.int p4), .val (.int p5), .val (.int (3 : Int32)), .unset, .unset, .unset, .unset, .unset, .unset, .unset, .unset, .unset] [(.int (2147483647 : Int32)), (.int p2)])) _
    refine XS.iand X0.here hx rfl (hb hby at_13) rfl ?_
    show Steps p.tables e below (s₁.setTop (mkF m 14 #[.val (.int p1), .val (.int p2), .val (.int p3), .val (.int p4), .val (.int p5), .val (.int (3 : Int32)), .unset, .unset, .unset, .unset, .unset, .unset, .unset, .unset, .unset] [(.int (p2 &&& (2147483647 : Int32)))])) _
    refine XS.iload X0.here hx rfl (hb hby at_14) rfl ?_
    show Steps p.tables e below (s₁.setTop (mkF m 16 #[.val (.int p1), .val (.int p2), .val (.int p3), .val (.int p4), .val (.int p5), .val (.int (3 : Int32)), .unset, .unset, .unset, .unset, .unset, .unset, .unset, .unset, .unset] [(.int (3 : Int32)), (.int (p2 &&& (2147483647 : Int32)))])) _
    refine iremM X0 hx rfl (hb hby at_16) rfl (by decide) ?_
    show Steps p.tables e below (s₁.setTop (mkF m 17 #[.val (.int p1), .val (.int p2), .val (.int p3), .val (.int p4), .val (.int p5), .val (.int (3 : Int32)), .unset, .unset, .unset, .unset, .unset, .unset, .unset, .unset, .unset] [(.int ((p2 &&& (2147483647 : Int32)) % (3 : Int32)))])) _
    refine XS.iconst X0.here hx rfl (hb hby at_17) ?_
    show Steps p.tables e below (s₁.setTop (mkF m 18 #[.val (.int p1), .val (.int p2), .val (.int p3), .val (.int p4), .val (.int p5), .val (.int (3 : Int32)), .unset, .unset, .unset, .unset, .unset, .unset, .unset, .unset, .unset] [(.int (1 : Int32)), (.int ((p2 &&& (2147483647 : Int32)) % (3 : Int32)))])) _
    refine XS.iadd X0.here hx rfl (hb hby at_18) rfl ?_
    show Steps p.tables e below (s₁.setTop (mkF m 19 #[.val (.int p1), .val (.int p2), .val (.int p3), .val (.int p4), .val (.int p5), .val (.int (3 : Int32)), .unset, .unset, .unset, .unset, .unset, .unset, .unset, .unset, .unset] [(.int (((p2 &&& (2147483647 : Int32)) % (3 : Int32)) + (1 : Int32)))])) _
    rw [hWk]
    show Steps p.tables e below (s₁.setTop (mkF m 19 #[.val (.int p1), .val (.int p2), .val (.int p3), .val (.int p4), .val (.int p5), .val (.int (3 : Int32)), .unset, .unset, .unset, .unset, .unset, .unset, .unset, .unset, .unset] [(.int wk)])) _
    refine XS.istore X0.here hx rfl (hb hby at_19) rfl (l' := #[.val (.int p1), .val (.int p2), .val (.int p3), .val (.int p4), .val (.int p5), .val (.int (3 : Int32)), .val (.int wk), .unset, .unset, .unset, .unset, .unset, .unset, .unset, .unset]) rfl ?_
    show Steps p.tables e below (s₁.setTop (mkF m 21 #[.val (.int p1), .val (.int p2), .val (.int p3), .val (.int p4), .val (.int p5), .val (.int (3 : Int32)), .val (.int wk), .unset, .unset, .unset, .unset, .unset, .unset, .unset, .unset] [])) _
    refine XS.iloadN X0.here hx rfl (hb hby at_21) rfl ?_
    show Steps p.tables e below (s₁.setTop (mkF m 22 #[.val (.int p1), .val (.int p2), .val (.int p3), .val (.int p4), .val (.int p5), .val (.int (3 : Int32)), .val (.int wk), .unset, .unset, .unset, .unset, .unset, .unset, .unset, .unset] [(.int p3)])) _
    refine X0.ldcInt hx hown (mvT hZ (hw _ (List.mem_of_getElem? (i := 0) rfl))) (g := (mkF m 22 #[.val (.int p1), .val (.int p2), .val (.int p3), .val (.int p4), .val (.int p5), .val (.int (3 : Int32)), .val (.int wk), .unset, .unset, .unset, .unset, .unset, .unset, .unset, .unset] [(.int p3)])) rfl (hb hby at_22) _ ?_
    show Steps p.tables e below (s₁.setTop (mkF m 24 #[.val (.int p1), .val (.int p2), .val (.int p3), .val (.int p4), .val (.int p5), .val (.int (3 : Int32)), .val (.int wk), .unset, .unset, .unset, .unset, .unset, .unset, .unset, .unset] [(.int (2147483647 : Int32)), (.int p3)])) _
    refine XS.iand X0.here hx rfl (hb hby at_24) rfl ?_
    show Steps p.tables e below (s₁.setTop (mkF m 25 #[.val (.int p1), .val (.int p2), .val (.int p3), .val (.int p4), .val (.int p5), .val (.int (3 : Int32)), .val (.int wk), .unset, .unset, .unset, .unset, .unset, .unset, .unset, .unset] [(.int (p3 &&& (2147483647 : Int32)))])) _
    refine XS.iload X0.here hx rfl (hb hby at_25) rfl ?_
    show Steps p.tables e below (s₁.setTop (mkF m 27 #[.val (.int p1), .val (.int p2), .val (.int p3), .val (.int p4), .val (.int p5), .val (.int (3 : Int32)), .val (.int wk), .unset, .unset, .unset, .unset, .unset, .unset, .unset, .unset] [(.int wk), (.int (p3 &&& (2147483647 : Int32)))])) _
    refine iremM X0 hx rfl (hb hby at_27) rfl (own_ne0 hw0) ?_
    show Steps p.tables e below (s₁.setTop (mkF m 28 #[.val (.int p1), .val (.int p2), .val (.int p3), .val (.int p4), .val (.int p5), .val (.int (3 : Int32)), .val (.int wk), .unset, .unset, .unset, .unset, .unset, .unset, .unset, .unset] [(.int ((p3 &&& (2147483647 : Int32)) % wk))])) _
    rw [hE0]
    show Steps p.tables e below (s₁.setTop (mkF m 28 #[.val (.int p1), .val (.int p2), .val (.int p3), .val (.int p4), .val (.int p5), .val (.int (3 : Int32)), .val (.int wk), .unset, .unset, .unset, .unset, .unset, .unset, .unset, .unset] [(.int e_0)])) _
    refine XS.istore X0.here hx rfl (hb hby at_28) rfl (l' := #[.val (.int p1), .val (.int p2), .val (.int p3), .val (.int p4), .val (.int p5), .val (.int (3 : Int32)), .val (.int wk), .val (.int e_0), .unset, .unset, .unset, .unset, .unset, .unset, .unset]) rfl ?_
    show Steps p.tables e below (s₁.setTop (mkF m 30 #[.val (.int p1), .val (.int p2), .val (.int p3), .val (.int p4), .val (.int p5), .val (.int (3 : Int32)), .val (.int wk), .val (.int e_0), .unset, .unset, .unset, .unset, .unset, .unset, .unset] [])) _
    refine XS.iloadN X0.here hx rfl (hb hby at_30) rfl ?_
    show Steps p.tables e below (s₁.setTop (mkF m 31 #[.val (.int p1), .val (.int p2), .val (.int p3), .val (.int p4), .val (.int p5), .val (.int (3 : Int32)), .val (.int wk), .val (.int e_0), .unset, .unset, .unset, .unset, .unset, .unset, .unset] [(.int p4)])) _
    refine X0.ldcInt hx hown (mvT hZ (hw _ (List.mem_of_getElem? (i := 0) rfl))) (g := (mkF m 31 #[.val (.int p1), .val (.int p2), .val (.int p3), .val (.int p4), .val (.int p5), .val (.int (3 : Int32)), .val (.int wk), .val (.int e_0), .unset, .unset, .unset, .unset, .unset, .unset, .unset] [(.int p4)])) rfl (hb hby at_31) _ ?_
    show Steps p.tables e below (s₁.setTop (mkF m 33 #[.val (.int p1), .val (.int p2), .val (.int p3), .val (.int p4), .val (.int p5), .val (.int (3 : Int32)), .val (.int wk), .val (.int e_0), .unset, .unset, .unset, .unset, .unset, .unset, .unset] [(.int (2147483647 : Int32)), (.int p4)])) _
    refine XS.iand X0.here hx rfl (hb hby at_33) rfl ?_
    show Steps p.tables e below (s₁.setTop (mkF m 34 #[.val (.int p1), .val (.int p2), .val (.int p3), .val (.int p4), .val (.int p5), .val (.int (3 : Int32)), .val (.int wk), .val (.int e_0), .unset, .unset, .unset, .unset, .unset, .unset, .unset] [(.int (p4 &&& (2147483647 : Int32)))])) _
    refine XS.iload X0.here hx rfl (hb hby at_34) rfl ?_
    show Steps p.tables e below (s₁.setTop (mkF m 36 #[.val (.int p1), .val (.int p2), .val (.int p3), .val (.int p4), .val (.int p5), .val (.int (3 : Int32)), .val (.int wk), .val (.int e_0), .unset, .unset, .unset, .unset, .unset, .unset, .unset] [(.int wk), (.int (p4 &&& (2147483647 : Int32)))])) _
    refine iremM X0 hx rfl (hb hby at_36) rfl (own_ne0 hw0) ?_
    show Steps p.tables e below (s₁.setTop (mkF m 37 #[.val (.int p1), .val (.int p2), .val (.int p3), .val (.int p4), .val (.int p5), .val (.int (3 : Int32)), .val (.int wk), .val (.int e_0), .unset, .unset, .unset, .unset, .unset, .unset, .unset] [(.int ((p4 &&& (2147483647 : Int32)) % wk))])) _
    rw [hE1]
    show Steps p.tables e below (s₁.setTop (mkF m 37 #[.val (.int p1), .val (.int p2), .val (.int p3), .val (.int p4), .val (.int p5), .val (.int (3 : Int32)), .val (.int wk), .val (.int e_0), .unset, .unset, .unset, .unset, .unset, .unset, .unset] [(.int e_1)])) _
    refine XS.istore X0.here hx rfl (hb hby at_37) rfl (l' := #[.val (.int p1), .val (.int p2), .val (.int p3), .val (.int p4), .val (.int p5), .val (.int (3 : Int32)), .val (.int wk), .val (.int e_0), .val (.int e_1), .unset, .unset, .unset, .unset, .unset, .unset]) rfl ?_
    show Steps p.tables e below (s₁.setTop (mkF m 39 #[.val (.int p1), .val (.int p2), .val (.int p3), .val (.int p4), .val (.int p5), .val (.int (3 : Int32)), .val (.int wk), .val (.int e_0), .val (.int e_1), .unset, .unset, .unset, .unset, .unset, .unset] [])) _
    refine XS.iload X0.here hx rfl (hb hby at_39) rfl ?_
    show Steps p.tables e below (s₁.setTop (mkF m 41 #[.val (.int p1), .val (.int p2), .val (.int p3), .val (.int p4), .val (.int p5), .val (.int (3 : Int32)), .val (.int wk), .val (.int e_0), .val (.int e_1), .unset, .unset, .unset, .unset, .unset, .unset] [(.int p5)])) _
    refine X0.ldcInt hx hown (mvT hZ (hw _ (List.mem_of_getElem? (i := 0) rfl))) (g := (mkF m 41 #[.val (.int p1), .val (.int p2), .val (.int p3), .val (.int p4), .val (.int p5), .val (.int (3 : Int32)), .val (.int wk), .val (.int e_0), .val (.int e_1), .unset, .unset, .unset, .unset, .unset, .unset] [(.int p5)])) rfl (hb hby at_41) _ ?_
    show Steps p.tables e below (s₁.setTop (mkF m 43 #[.val (.int p1), .val (.int p2), .val (.int p3), .val (.int p4), .val (.int p5), .val (.int (3 : Int32)), .val (.int wk), .val (.int e_0), .val (.int e_1), .unset, .unset, .unset, .unset, .unset, .unset] [(.int (2147483647 : Int32)), (.int p5)])) _
    refine XS.iand X0.here hx rfl (hb hby at_43) rfl ?_
    show Steps p.tables e below (s₁.setTop (mkF m 44 #[.val (.int p1), .val (.int p2), .val (.int p3), .val (.int p4), .val (.int p5), .val (.int (3 : Int32)), .val (.int wk), .val (.int e_0), .val (.int e_1), .unset, .unset, .unset, .unset, .unset, .unset] [(.int (p5 &&& (2147483647 : Int32)))])) _
    refine XS.iload X0.here hx rfl (hb hby at_44) rfl ?_
    show Steps p.tables e below (s₁.setTop (mkF m 46 #[.val (.int p1), .val (.int p2), .val (.int p3), .val (.int p4), .val (.int p5), .val (.int (3 : Int32)), .val (.int wk), .val (.int e_0), .val (.int e_1), .unset, .unset, .unset, .unset, .unset, .unset] [(.int wk), (.int (p5 &&& (2147483647 : Int32)))])) _
    refine iremM X0 hx rfl (hb hby at_46) rfl (own_ne0 hw0) ?_
    show Steps p.tables e below (s₁.setTop (mkF m 47 #[.val (.int p1), .val (.int p2), .val (.int p3), .val (.int p4), .val (.int p5), .val (.int (3 : Int32)), .val (.int wk), .val (.int e_0), .val (.int e_1), .unset, .unset, .unset, .unset, .unset, .unset] [(.int ((p5 &&& (2147483647 : Int32)) % wk))])) _
    rw [hE2]
    show Steps p.tables e below (s₁.setTop (mkF m 47 #[.val (.int p1), .val (.int p2), .val (.int p3), .val (.int p4), .val (.int p5), .val (.int (3 : Int32)), .val (.int wk), .val (.int e_0), .val (.int e_1), .unset, .unset, .unset, .unset, .unset, .unset] [(.int e_2)])) _
    refine XS.istore X0.here hx rfl (hb hby at_47) rfl (l' := #[.val (.int p1), .val (.int p2), .val (.int p3), .val (.int p4), .val (.int p5), .val (.int (3 : Int32)), .val (.int wk), .val (.int e_0), .val (.int e_1), .val (.int e_2), .unset, .unset, .unset, .unset, .unset]) rfl ?_
    show Steps p.tables e below (s₁.setTop (mkF m 49 #[.val (.int p1), .val (.int p2), .val (.int p3), .val (.int p4), .val (.int p5), .val (.int (3 : Int32)), .val (.int wk), .val (.int e_0), .val (.int e_1), .val (.int e_2), .unset, .unset, .unset, .unset, .unset] [])) _
    refine XS.iconst X0.here hx rfl (hb hby at_49) ?_
    show Steps p.tables e below (s₁.setTop (mkF m 50 #[.val (.int p1), .val (.int p2), .val (.int p3), .val (.int p4), .val (.int p5), .val (.int (3 : Int32)), .val (.int wk), .val (.int e_0), .val (.int e_1), .val (.int e_2), .unset, .unset, .unset, .unset, .unset] [(.int (1 : Int32))])) _
    refine st6 _ ?_
    show Steps p.tables e below (T6.setTop (mkF m 52 #[.val (.int p1), .val (.int p2), .val (.int p3), .val (.int p4), .val (.int p5), .val (.int (3 : Int32)), .val (.int wk), .val (.int e_0), .val (.int e_1), .val (.int e_2), .unset, .unset, .unset, .unset, .unset] [(.ref b6)])) _
    refine XS.astore X6.here hx rfl (hb hby at_52) rfl rfl (l' := #[.val (.int p1), .val (.int p2), .val (.int p3), .val (.int p4), .val (.int p5), .val (.int (3 : Int32)), .val (.int wk), .val (.int e_0), .val (.int e_1), .val (.int e_2), .val (.ref b6), .unset, .unset, .unset, .unset]) rfl ?_
    show Steps p.tables e below (T6.setTop (mkF m 54 #[.val (.int p1), .val (.int p2), .val (.int p3), .val (.int p4), .val (.int p5), .val (.int (3 : Int32)), .val (.int wk), .val (.int e_0), .val (.int e_1), .val (.int e_2), .val (.ref b6), .unset, .unset, .unset, .unset] [])) _
    refine XS.iconst X6.here hx rfl (hb hby at_54) ?_
    show Steps p.tables e below (T6.setTop (mkF m 55 #[.val (.int p1), .val (.int p2), .val (.int p3), .val (.int p4), .val (.int p5), .val (.int (3 : Int32)), .val (.int wk), .val (.int e_0), .val (.int e_1), .val (.int e_2), .val (.ref b6), .unset, .unset, .unset, .unset] [(.int (2 : Int32))])) _
    refine st7 _ ?_
    show Steps p.tables e below (T7.setTop (mkF m 57 #[.val (.int p1), .val (.int p2), .val (.int p3), .val (.int p4), .val (.int p5), .val (.int (3 : Int32)), .val (.int wk), .val (.int e_0), .val (.int e_1), .val (.int e_2), .val (.ref b6), .unset, .unset, .unset, .unset] [(.ref b7)])) _
    refine XS.astore X7.here hx rfl (hb hby at_57) rfl rfl (l' := #[.val (.int p1), .val (.int p2), .val (.int p3), .val (.int p4), .val (.int p5), .val (.int (3 : Int32)), .val (.int wk), .val (.int e_0), .val (.int e_1), .val (.int e_2), .val (.ref b6), .val (.ref b7), .unset, .unset, .unset]) rfl ?_
    show Steps p.tables e below (T7.setTop (mkF m 59 #[.val (.int p1), .val (.int p2), .val (.int p3), .val (.int p4), .val (.int p5), .val (.int (3 : Int32)), .val (.int wk), .val (.int e_0), .val (.int e_1), .val (.int e_2), .val (.ref b6), .val (.ref b7), .unset, .unset, .unset] [])) _
    refine XS.iconst X7.here hx rfl (hb hby at_59) ?_
    show Steps p.tables e below (T7.setTop (mkF m 60 #[.val (.int p1), .val (.int p2), .val (.int p3), .val (.int p4), .val (.int p5), .val (.int (3 : Int32)), .val (.int wk), .val (.int e_0), .val (.int e_1), .val (.int e_2), .val (.ref b6), .val (.ref b7), .unset, .unset, .unset] [(.int (3 : Int32))])) _
    refine st8 _ ?_
    show Steps p.tables e below (T8.setTop (mkF m 62 #[.val (.int p1), .val (.int p2), .val (.int p3), .val (.int p4), .val (.int p5), .val (.int (3 : Int32)), .val (.int wk), .val (.int e_0), .val (.int e_1), .val (.int e_2), .val (.ref b6), .val (.ref b7), .unset, .unset, .unset] [(.ref b8)])) _
    refine XS.astore X8.here hx rfl (hb hby at_62) rfl rfl (l' := #[.val (.int p1), .val (.int p2), .val (.int p3), .val (.int p4), .val (.int p5), .val (.int (3 : Int32)), .val (.int wk), .val (.int e_0), .val (.int e_1), .val (.int e_2), .val (.ref b6), .val (.ref b7), .val (.ref b8), .unset, .unset]) rfl ?_
    show Steps p.tables e below (T8.setTop (mkF m 64 #[.val (.int p1), .val (.int p2), .val (.int p3), .val (.int p4), .val (.int p5), .val (.int (3 : Int32)), .val (.int wk), .val (.int e_0), .val (.int e_1), .val (.int e_2), .val (.ref b6), .val (.ref b7), .val (.ref b8), .unset, .unset] [])) _
    refine XS.aload X8.here hx rfl (hb hby at_64) rfl rfl ?_
    show Steps p.tables e below (T8.setTop (mkF m 66 #[.val (.int p1), .val (.int p2), .val (.int p3), .val (.int p4), .val (.int p5), .val (.int (3 : Int32)), .val (.int wk), .val (.int e_0), .val (.int e_1), .val (.int e_2), .val (.ref b6), .val (.ref b7), .val (.ref b8), .unset, .unset] [(.ref b6)])) _
    refine XS.iconst X8.here hx rfl (hb hby at_66) ?_
    show Steps p.tables e below (T8.setTop (mkF m 67 #[.val (.int p1), .val (.int p2), .val (.int p3), .val (.int p4), .val (.int p5), .val (.int (3 : Int32)), .val (.int wk), .val (.int e_0), .val (.int e_1), .val (.int e_2), .val (.ref b6), .val (.ref b7), .val (.ref b8), .unset, .unset] [(.int (0 : Int32)), (.ref b6)])) _
    refine XS.iload X8.here hx rfl (hb hby at_67) rfl ?_
    show Steps p.tables e below (T8.setTop (mkF m 69 #[.val (.int p1), .val (.int p2), .val (.int p3), .val (.int p4), .val (.int p5), .val (.int (3 : Int32)), .val (.int wk), .val (.int e_0), .val (.int e_1), .val (.int e_2), .val (.ref b6), .val (.ref b7), .val (.ref b8), .unset, .unset] [(.int e_0), (.int (0 : Int32)), (.ref b6)])) _
    refine st9 _ ?_
    show Steps p.tables e below (T9.setTop (mkF m 70 #[.val (.int p1), .val (.int p2), .val (.int p3), .val (.int p4), .val (.int p5), .val (.int (3 : Int32)), .val (.int wk), .val (.int e_0), .val (.int e_1), .val (.int e_2), .val (.ref b6), .val (.ref b7), .val (.ref b8), .unset, .unset] [])) _
    refine XS.aload X9.here hx rfl (hb hby at_70) rfl rfl ?_
    show Steps p.tables e below (T9.setTop (mkF m 72 #[.val (.int p1), .val (.int p2), .val (.int p3), .val (.int p4), .val (.int p5), .val (.int (3 : Int32)), .val (.int wk), .val (.int e_0), .val (.int e_1), .val (.int e_2), .val (.ref b6), .val (.ref b7), .val (.ref b8), .unset, .unset] [(.ref b7)])) _
    refine XS.iconst X9.here hx rfl (hb hby at_72) ?_
    show Steps p.tables e below (T9.setTop (mkF m 73 #[.val (.int p1), .val (.int p2), .val (.int p3), .val (.int p4), .val (.int p5), .val (.int (3 : Int32)), .val (.int wk), .val (.int e_0), .val (.int e_1), .val (.int e_2), .val (.ref b6), .val (.ref b7), .val (.ref b8), .unset, .unset] [(.int (0 : Int32)), (.ref b7)])) _
    refine XS.iload X9.here hx rfl (hb hby at_73) rfl ?_
    show Steps p.tables e below (T9.setTop (mkF m 75 #[.val (.int p1), .val (.int p2), .val (.int p3), .val (.int p4), .val (.int p5), .val (.int (3 : Int32)), .val (.int wk), .val (.int e_0), .val (.int e_1), .val (.int e_2), .val (.ref b6), .val (.ref b7), .val (.ref b8), .unset, .unset] [(.int e_0), (.int (0 : Int32)), (.ref b7)])) _
    refine st10 _ ?_
    show Steps p.tables e below (T10.setTop (mkF m 76 #[.val (.int p1), .val (.int p2), .val (.int p3), .val (.int p4), .val (.int p5), .val (.int (3 : Int32)), .val (.int wk), .val (.int e_0), .val (.int e_1), .val (.int e_2), .val (.ref b6), .val (.ref b7), .val (.ref b8), .unset, .unset] [])) _
    refine XS.aload X10.here hx rfl (hb hby at_76) rfl rfl ?_
    show Steps p.tables e below (T10.setTop (mkF m 78 #[.val (.int p1), .val (.int p2), .val (.int p3), .val (.int p4), .val (.int p5), .val (.int (3 : Int32)), .val (.int wk), .val (.int e_0), .val (.int e_1), .val (.int e_2), .val (.ref b6), .val (.ref b7), .val (.ref b8), .unset, .unset] [(.ref b7)])) _
    refine XS.iconst X10.here hx rfl (hb hby at_78) ?_
    show Steps p.tables e below (T10.setTop (mkF m 79 #[.val (.int p1), .val (.int p2), .val (.int p3), .val (.int p4), .val (.int p5), .val (.int (3 : Int32)), .val (.int wk), .val (.int e_0), .val (.int e_1), .val (.int e_2), .val (.ref b6), .val (.ref b7), .val (.ref b8), .unset, .unset] [(.int (1 : Int32)), (.ref b7)])) _
    refine XS.iload X10.here hx rfl (hb hby at_79) rfl ?_
    show Steps p.tables e below (T10.setTop (mkF m 81 #[.val (.int p1), .val (.int p2), .val (.int p3), .val (.int p4), .val (.int p5), .val (.int (3 : Int32)), .val (.int wk), .val (.int e_0), .val (.int e_1), .val (.int e_2), .val (.ref b6), .val (.ref b7), .val (.ref b8), .unset, .unset] [(.int e_1), (.int (1 : Int32)), (.ref b7)])) _
    refine st11 _ ?_
    show Steps p.tables e below (T11.setTop (mkF m 82 #[.val (.int p1), .val (.int p2), .val (.int p3), .val (.int p4), .val (.int p5), .val (.int (3 : Int32)), .val (.int wk), .val (.int e_0), .val (.int e_1), .val (.int e_2), .val (.ref b6), .val (.ref b7), .val (.ref b8), .unset, .unset] [])) _
    refine XS.aload X11.here hx rfl (hb hby at_82) rfl rfl ?_
    show Steps p.tables e below (T11.setTop (mkF m 84 #[.val (.int p1), .val (.int p2), .val (.int p3), .val (.int p4), .val (.int p5), .val (.int (3 : Int32)), .val (.int wk), .val (.int e_0), .val (.int e_1), .val (.int e_2), .val (.ref b6), .val (.ref b7), .val (.ref b8), .unset, .unset] [(.ref b8)])) _
    refine XS.iconst X11.here hx rfl (hb hby at_84) ?_
    show Steps p.tables e below (T11.setTop (mkF m 85 #[.val (.int p1), .val (.int p2), .val (.int p3), .val (.int p4), .val (.int p5), .val (.int (3 : Int32)), .val (.int wk), .val (.int e_0), .val (.int e_1), .val (.int e_2), .val (.ref b6), .val (.ref b7), .val (.ref b8), .unset, .unset] [(.int (0 : Int32)), (.ref b8)])) _
    refine XS.iload X11.here hx rfl (hb hby at_85) rfl ?_
    show Steps p.tables e below (T11.setTop (mkF m 87 #[.val (.int p1), .val (.int p2), .val (.int p3), .val (.int p4), .val (.int p5), .val (.int (3 : Int32)), .val (.int wk), .val (.int e_0), .val (.int e_1), .val (.int e_2), .val (.ref b6), .val (.ref b7), .val (.ref b8), .unset, .unset] [(.int e_0), (.int (0 : Int32)), (.ref b8)])) _
    refine st12 _ ?_
    show Steps p.tables e below (T12.setTop (mkF m 88 #[.val (.int p1), .val (.int p2), .val (.int p3), .val (.int p4), .val (.int p5), .val (.int (3 : Int32)), .val (.int wk), .val (.int e_0), .val (.int e_1), .val (.int e_2), .val (.ref b6), .val (.ref b7), .val (.ref b8), .unset, .unset] [])) _
    refine XS.aload X12.here hx rfl (hb hby at_88) rfl rfl ?_
    show Steps p.tables e below (T12.setTop (mkF m 90 #[.val (.int p1), .val (.int p2), .val (.int p3), .val (.int p4), .val (.int p5), .val (.int (3 : Int32)), .val (.int wk), .val (.int e_0), .val (.int e_1), .val (.int e_2), .val (.ref b6), .val (.ref b7), .val (.ref b8), .unset, .unset] [(.ref b8)])) _
    refine XS.iconst X12.here hx rfl (hb hby at_90) ?_
    show Steps p.tables e below (T12.setTop (mkF m 91 #[.val (.int p1), .val (.int p2), .val (.int p3), .val (.int p4), .val (.int p5), .val (.int (3 : Int32)), .val (.int wk), .val (.int e_0), .val (.int e_1), .val (.int e_2), .val (.ref b6), .val (.ref b7), .val (.ref b8), .unset, .unset] [(.int (1 : Int32)), (.ref b8)])) _
    refine XS.iload X12.here hx rfl (hb hby at_91) rfl ?_
    show Steps p.tables e below (T12.setTop (mkF m 93 #[.val (.int p1), .val (.int p2), .val (.int p3), .val (.int p4), .val (.int p5), .val (.int (3 : Int32)), .val (.int wk), .val (.int e_0), .val (.int e_1), .val (.int e_2), .val (.ref b6), .val (.ref b7), .val (.ref b8), .unset, .unset] [(.int e_1), (.int (1 : Int32)), (.ref b8)])) _
    refine st13 _ ?_
    show Steps p.tables e below (T13.setTop (mkF m 94 #[.val (.int p1), .val (.int p2), .val (.int p3), .val (.int p4), .val (.int p5), .val (.int (3 : Int32)), .val (.int wk), .val (.int e_0), .val (.int e_1), .val (.int e_2), .val (.ref b6), .val (.ref b7), .val (.ref b8), .unset, .unset] [])) _
    refine XS.aload X13.here hx rfl (hb hby at_94) rfl rfl ?_
    show Steps p.tables e below (T13.setTop (mkF m 96 #[.val (.int p1), .val (.int p2), .val (.int p3), .val (.int p4), .val (.int p5), .val (.int (3 : Int32)), .val (.int wk), .val (.int e_0), .val (.int e_1), .val (.int e_2), .val (.ref b6), .val (.ref b7), .val (.ref b8), .unset, .unset] [(.ref b8)])) _
    refine XS.iconst X13.here hx rfl (hb hby at_96) ?_
    show Steps p.tables e below (T13.setTop (mkF m 97 #[.val (.int p1), .val (.int p2), .val (.int p3), .val (.int p4), .val (.int p5), .val (.int (3 : Int32)), .val (.int wk), .val (.int e_0), .val (.int e_1), .val (.int e_2), .val (.ref b6), .val (.ref b7), .val (.ref b8), .unset, .unset] [(.int (2 : Int32)), (.ref b8)])) _
    refine XS.iload X13.here hx rfl (hb hby at_97) rfl ?_
    show Steps p.tables e below (T13.setTop (mkF m 99 #[.val (.int p1), .val (.int p2), .val (.int p3), .val (.int p4), .val (.int p5), .val (.int (3 : Int32)), .val (.int wk), .val (.int e_0), .val (.int e_1), .val (.int e_2), .val (.ref b6), .val (.ref b7), .val (.ref b8), .unset, .unset] [(.int e_2), (.int (2 : Int32)), (.ref b8)])) _
    refine st14 _ ?_
    show Steps p.tables e below (T14.setTop (mkF m 100 #[.val (.int p1), .val (.int p2), .val (.int p3), .val (.int p4), .val (.int p5), .val (.int (3 : Int32)), .val (.int wk), .val (.int e_0), .val (.int e_1), .val (.int e_2), .val (.ref b6), .val (.ref b7), .val (.ref b8), .unset, .unset] [])) _
    refine XS.iload X14.here hx rfl (hb hby at_100) rfl ?_
    show Steps p.tables e below (T14.setTop (mkF m 102 #[.val (.int p1), .val (.int p2), .val (.int p3), .val (.int p4), .val (.int p5), .val (.int (3 : Int32)), .val (.int wk), .val (.int e_0), .val (.int e_1), .val (.int e_2), .val (.ref b6), .val (.ref b7), .val (.ref b8), .unset, .unset] [(.int (3 : Int32))])) _
    refine XS.iconst X14.here hx rfl (hb hby at_102) ?_
    show Steps p.tables e below (T14.setTop (mkF m 103 #[.val (.int p1), .val (.int p2), .val (.int p3), .val (.int p4), .val (.int p5), .val (.int (3 : Int32)), .val (.int wk), .val (.int e_0), .val (.int e_1), .val (.int e_2), .val (.ref b6), .val (.ref b7), .val (.ref b8), .unset, .unset] [(.int (1 : Int32)), (.int (3 : Int32))])) _
    refine XS.icmpYes X14.here hx rfl (pc0 := 103) (pc' := 111) rfl (hb hby at_103) rfl (feq hc103).2 (by decide) (by decide) ?_
    show Steps p.tables e below (T14.setTop (mkF m 111 #[.val (.int p1), .val (.int p2), .val (.int p3), .val (.int p4), .val (.int p5), .val (.int (3 : Int32)), .val (.int wk), .val (.int e_0), .val (.int e_1), .val (.int e_2), .val (.ref b6), .val (.ref b7), .val (.ref b8), .unset, .unset] [])) _
    refine XS.iload X14.here hx rfl (hb hby at_111) rfl ?_
    show Steps p.tables e below (T14.setTop (mkF m 113 #[.val (.int p1), .val (.int p2), .val (.int p3), .val (.int p4), .val (.int p5), .val (.int (3 : Int32)), .val (.int wk), .val (.int e_0), .val (.int e_1), .val (.int e_2), .val (.ref b6), .val (.ref b7), .val (.ref b8), .unset, .unset] [(.int (3 : Int32))])) _
    refine XS.iconst X14.here hx rfl (hb hby at_113) ?_
    show Steps p.tables e below (T14.setTop (mkF m 114 #[.val (.int p1), .val (.int p2), .val (.int p3), .val (.int p4), .val (.int p5), .val (.int (3 : Int32)), .val (.int wk), .val (.int e_0), .val (.int e_1), .val (.int e_2), .val (.ref b6), .val (.ref b7), .val (.ref b8), .unset, .unset] [(.int (2 : Int32)), (.int (3 : Int32))])) _
    refine XS.icmpYes X14.here hx rfl (pc0 := 114) (pc' := 122) rfl (hb hby at_114) rfl (feq hc114).2 (by decide) (by decide) ?_
    show Steps p.tables e below (T14.setTop (mkF m 122 #[.val (.int p1), .val (.int p2), .val (.int p3), .val (.int p4), .val (.int p5), .val (.int (3 : Int32)), .val (.int wk), .val (.int e_0), .val (.int e_1), .val (.int e_2), .val (.ref b6), .val (.ref b7), .val (.ref b8), .unset, .unset] [])) _
    refine XS.aload X14.here hx rfl (hb hby at_122) rfl rfl ?_
    show Steps p.tables e below (T14.setTop (mkF m 124 #[.val (.int p1), .val (.int p2), .val (.int p3), .val (.int p4), .val (.int p5), .val (.int (3 : Int32)), .val (.int wk), .val (.int e_0), .val (.int e_1), .val (.int e_2), .val (.ref b6), .val (.ref b7), .val (.ref b8), .unset, .unset] [(.ref b8)])) _
    refine XS.astore X14.here hx rfl (hb hby at_124) rfl rfl (l' := #[.val (.int p1), .val (.int p2), .val (.int p3), .val (.int p4), .val (.int p5), .val (.int (3 : Int32)), .val (.int wk), .val (.int e_0), .val (.int e_1), .val (.int e_2), .val (.ref b6), .val (.ref b7), .val (.ref b8), .val (.ref b8), .unset]) rfl ?_
    show Steps p.tables e below (T14.setTop (mkF m 126 #[.val (.int p1), .val (.int p2), .val (.int p3), .val (.int p4), .val (.int p5), .val (.int (3 : Int32)), .val (.int wk), .val (.int e_0), .val (.int e_1), .val (.int e_2), .val (.ref b6), .val (.ref b7), .val (.ref b8), .val (.ref b8), .unset] [])) _
    refine XS.iload X14.here hx rfl (hb hby at_126) rfl ?_
    show Steps p.tables e below (T14.setTop (mkF m 128 #[.val (.int p1), .val (.int p2), .val (.int p3), .val (.int p4), .val (.int p5), .val (.int (3 : Int32)), .val (.int wk), .val (.int e_0), .val (.int e_1), .val (.int e_2), .val (.ref b6), .val (.ref b7), .val (.ref b8), .val (.ref b8), .unset] [(.int wk)])) _
    refine XS.aload X14.here hx rfl (hb hby at_128) rfl rfl ?_
    show Steps p.tables e below (T14.setTop (mkF m 130 #[.val (.int p1), .val (.int p2), .val (.int p3), .val (.int p4), .val (.int p5), .val (.int (3 : Int32)), .val (.int wk), .val (.int e_0), .val (.int e_1), .val (.int e_2), .val (.ref b6), .val (.ref b7), .val (.ref b8), .val (.ref b8), .unset] [(.ref b8), (.int wk)])) _
    refine st15 _ ?_
    show Steps p.tables e below (T15.setTop (mkF m 133 #[.val (.int p1), .val (.int p2), .val (.int p3), .val (.int p4), .val (.int p5), .val (.int (3 : Int32)), .val (.int wk), .val (.int e_0), .val (.int e_1), .val (.int e_2), .val (.ref b6), .val (.ref b7), .val (.ref b8), .val (.ref b8), .unset] [(.ref bp)])) _
    refine XS.astore X15.here hx rfl (hb hby at_133) rfl rfl (l' := #[.val (.int p1), .val (.int p2), .val (.int p3), .val (.int p4), .val (.int p5), .val (.int (3 : Int32)), .val (.int wk), .val (.int e_0), .val (.int e_1), .val (.int e_2), .val (.ref b6), .val (.ref b7), .val (.ref b8), .val (.ref b8), .val (.ref bp)]) rfl ?_
    show Steps p.tables e below (T15.setTop (mkF m 135 #[.val (.int p1), .val (.int p2), .val (.int p3), .val (.int p4), .val (.int p5), .val (.int (3 : Int32)), .val (.int wk), .val (.int e_0), .val (.int e_1), .val (.int e_2), .val (.ref b6), .val (.ref b7), .val (.ref b8), .val (.ref b8), .val (.ref bp)] [])) _
    refine XS.aload X15.here hx rfl (hb hby at_135) rfl rfl ?_
    show Steps p.tables e below (T15.setTop (mkF m 137 #[.val (.int p1), .val (.int p2), .val (.int p3), .val (.int p4), .val (.int p5), .val (.int (3 : Int32)), .val (.int wk), .val (.int e_0), .val (.int e_1), .val (.int e_2), .val (.ref b6), .val (.ref b7), .val (.ref b8), .val (.ref b8), .val (.ref bp)] [(.ref b8)])) _
    refine XS.iconst X15.here hx rfl (hb hby at_137) ?_
    show Steps p.tables e below (T15.setTop (mkF m 138 #[.val (.int p1), .val (.int p2), .val (.int p3), .val (.int p4), .val (.int p5), .val (.int (3 : Int32)), .val (.int wk), .val (.int e_0), .val (.int e_1), .val (.int e_2), .val (.ref b6), .val (.ref b7), .val (.ref b8), .val (.ref b8), .val (.ref bp)] [(.int (0 : Int32)), (.ref b8)])) _
    refine XS.iload X15.here hx rfl (hb hby at_138) rfl ?_
    show Steps p.tables e below (T15.setTop (mkF m 140 #[.val (.int p1), .val (.int p2), .val (.int p3), .val (.int p4), .val (.int p5), .val (.int (3 : Int32)), .val (.int wk), .val (.int e_0), .val (.int e_1), .val (.int e_2), .val (.ref b6), .val (.ref b7), .val (.ref b8), .val (.ref b8), .val (.ref bp)] [(.int wk), (.int (0 : Int32)), (.ref b8)])) _
    refine st16 _ ?_
    show Steps p.tables e below (T16.setTop (mkF m 141 #[.val (.int p1), .val (.int p2), .val (.int p3), .val (.int p4), .val (.int p5), .val (.int (3 : Int32)), .val (.int wk), .val (.int e_0), .val (.int e_1), .val (.int e_2), .val (.ref b6), .val (.ref b7), .val (.ref b8), .val (.ref b8), .val (.ref bp)] [])) _
    refine XS.aload X16.here hx rfl (hb hby at_141) rfl rfl ?_
    show Steps p.tables e below (T16.setTop (mkF m 143 #[.val (.int p1), .val (.int p2), .val (.int p3), .val (.int p4), .val (.int p5), .val (.int (3 : Int32)), .val (.int wk), .val (.int e_0), .val (.int e_1), .val (.int e_2), .val (.ref b6), .val (.ref b7), .val (.ref b8), .val (.ref b8), .val (.ref bp)] [(.ref bp)])) _
    refine st17.trans ?_
    show Steps p.tables e below (T17.setTop (mkF m 146 #[.val (.int p1), .val (.int p2), .val (.int p3), .val (.int p4), .val (.int p5), .val (.int (3 : Int32)), .val (.int wk), .val (.int e_0), .val (.int e_1), .val (.int e_2), .val (.ref b6), .val (.ref b7), .val (.ref b8), .val (.ref b8), .val (.ref bp)] [(.int (3 : Int32))])) _
    refine XS.iload X17.here hx rfl (hb hby at_146) rfl ?_
    show Steps p.tables e below (T17.setTop (mkF m 148 #[.val (.int p1), .val (.int p2), .val (.int p3), .val (.int p4), .val (.int p5), .val (.int (3 : Int32)), .val (.int wk), .val (.int e_0), .val (.int e_1), .val (.int e_2), .val (.ref b6), .val (.ref b7), .val (.ref b8), .val (.ref b8), .val (.ref bp)] [(.int (3 : Int32)), (.int (3 : Int32))])) _
    refine XS.icmpYes X17.here hx rfl (pc0 := 148) (pc' := 153) rfl (hb hby at_148) rfl (teq (rfl : (3 : Int32) = (3 : Int32))).1 (by decide) (by decide) ?_
    show Steps p.tables e below (T17.setTop (mkF m 153 #[.val (.int p1), .val (.int p2), .val (.int p3), .val (.int p4), .val (.int p5), .val (.int (3 : Int32)), .val (.int wk), .val (.int e_0), .val (.int e_1), .val (.int e_2), .val (.ref b6), .val (.ref b7), .val (.ref b8), .val (.ref b8), .val (.ref bp)] [])) _
    refine XS.aload X17.here hx rfl (hb hby at_153) rfl rfl ?_
    show Steps p.tables e below (T17.setTop (mkF m 155 #[.val (.int p1), .val (.int p2), .val (.int p3), .val (.int p4), .val (.int p5), .val (.int (3 : Int32)), .val (.int wk), .val (.int e_0), .val (.int e_1), .val (.int e_2), .val (.ref b6), .val (.ref b7), .val (.ref b8), .val (.ref b8), .val (.ref bp)] [(.ref bp)])) _
    refine st18.trans ?_
    show Steps p.tables e below (T18.setTop (mkF m 158 #[.val (.int p1), .val (.int p2), .val (.int p3), .val (.int p4), .val (.int p5), .val (.int (3 : Int32)), .val (.int wk), .val (.int e_0), .val (.int e_1), .val (.int e_2), .val (.ref b6), .val (.ref b7), .val (.ref b8), .val (.ref b8), .val (.ref bp)] [(.int wk)])) _
    refine XS.iload X18.here hx rfl (hb hby at_158) rfl ?_
    show Steps p.tables e below (T18.setTop (mkF m 160 #[.val (.int p1), .val (.int p2), .val (.int p3), .val (.int p4), .val (.int p5), .val (.int (3 : Int32)), .val (.int wk), .val (.int e_0), .val (.int e_1), .val (.int e_2), .val (.ref b6), .val (.ref b7), .val (.ref b8), .val (.ref b8), .val (.ref bp)] [(.int wk), (.int wk)])) _
    refine XS.icmpYes X18.here hx rfl (pc0 := 160) (pc' := 165) rfl (hb hby at_160) rfl (teq (rfl : wk = wk)).1 (by decide) (by decide) ?_
    show Steps p.tables e below (T18.setTop (mkF m 165 #[.val (.int p1), .val (.int p2), .val (.int p3), .val (.int p4), .val (.int p5), .val (.int (3 : Int32)), .val (.int wk), .val (.int e_0), .val (.int e_1), .val (.int e_2), .val (.ref b6), .val (.ref b7), .val (.ref b8), .val (.ref b8), .val (.ref bp)] [])) _
    refine XS.aload X18.here hx rfl (hb hby at_165) rfl rfl ?_
    show Steps p.tables e below (T18.setTop (mkF m 167 #[.val (.int p1), .val (.int p2), .val (.int p3), .val (.int p4), .val (.int p5), .val (.int (3 : Int32)), .val (.int wk), .val (.int e_0), .val (.int e_1), .val (.int e_2), .val (.ref b6), .val (.ref b7), .val (.ref b8), .val (.ref b8), .val (.ref bp)] [(.ref bp)])) _
    refine XS.iconst X18.here hx rfl (hb hby at_167) ?_
    show Steps p.tables e below (T18.setTop (mkF m 168 #[.val (.int p1), .val (.int p2), .val (.int p3), .val (.int p4), .val (.int p5), .val (.int (3 : Int32)), .val (.int wk), .val (.int e_0), .val (.int e_1), .val (.int e_2), .val (.ref b6), .val (.ref b7), .val (.ref b8), .val (.ref b8), .val (.ref bp)] [(.int (0 : Int32)), (.ref bp)])) _
    refine st19.trans ?_
    show Steps p.tables e below (T19.setTop (mkF m 171 #[.val (.int p1), .val (.int p2), .val (.int p3), .val (.int p4), .val (.int p5), .val (.int (3 : Int32)), .val (.int wk), .val (.int e_0), .val (.int e_1), .val (.int e_2), .val (.ref b6), .val (.ref b7), .val (.ref b8), .val (.ref b8), .val (.ref bp)] [(.int e_0)])) _
    refine XS.iload X19.here hx rfl (hb hby at_171) rfl ?_
    show Steps p.tables e below (T19.setTop (mkF m 173 #[.val (.int p1), .val (.int p2), .val (.int p3), .val (.int p4), .val (.int p5), .val (.int (3 : Int32)), .val (.int wk), .val (.int e_0), .val (.int e_1), .val (.int e_2), .val (.ref b6), .val (.ref b7), .val (.ref b8), .val (.ref b8), .val (.ref bp)] [(.int e_0), (.int e_0)])) _
    refine XS.icmpYes X19.here hx rfl (pc0 := 173) (pc' := 178) rfl (hb hby at_173) rfl (teq (rfl : e_0 = e_0)).1 (by decide) (by decide) ?_
    show Steps p.tables e below (T19.setTop (mkF m 178 #[.val (.int p1), .val (.int p2), .val (.int p3), .val (.int p4), .val (.int p5), .val (.int (3 : Int32)), .val (.int wk), .val (.int e_0), .val (.int e_1), .val (.int e_2), .val (.ref b6), .val (.ref b7), .val (.ref b8), .val (.ref b8), .val (.ref bp)] [])) _
    refine XS.iload X19.here hx rfl (hb hby at_178) rfl ?_
    show Steps p.tables e below (T19.setTop (mkF m 180 #[.val (.int p1), .val (.int p2), .val (.int p3), .val (.int p4), .val (.int p5), .val (.int (3 : Int32)), .val (.int wk), .val (.int e_0), .val (.int e_1), .val (.int e_2), .val (.ref b6), .val (.ref b7), .val (.ref b8), .val (.ref b8), .val (.ref bp)] [(.int (3 : Int32))])) _
    refine XS.iconst X19.here hx rfl (hb hby at_180) ?_
    show Steps p.tables e below (T19.setTop (mkF m 181 #[.val (.int p1), .val (.int p2), .val (.int p3), .val (.int p4), .val (.int p5), .val (.int (3 : Int32)), .val (.int wk), .val (.int e_0), .val (.int e_1), .val (.int e_2), .val (.ref b6), .val (.ref b7), .val (.ref b8), .val (.ref b8), .val (.ref bp)] [(.int (2 : Int32)), (.int (3 : Int32))])) _
    refine XS.icmpNo X19.here hx rfl (hb hby at_181) rfl (flt hc181).1 ?_
    show Steps p.tables e below (T19.setTop (mkF m 184 #[.val (.int p1), .val (.int p2), .val (.int p3), .val (.int p4), .val (.int p5), .val (.int (3 : Int32)), .val (.int wk), .val (.int e_0), .val (.int e_1), .val (.int e_2), .val (.ref b6), .val (.ref b7), .val (.ref b8), .val (.ref b8), .val (.ref bp)] [])) _
    refine XS.aload X19.here hx rfl (hb hby at_184) rfl rfl ?_
    show Steps p.tables e below (T19.setTop (mkF m 186 #[.val (.int p1), .val (.int p2), .val (.int p3), .val (.int p4), .val (.int p5), .val (.int (3 : Int32)), .val (.int wk), .val (.int e_0), .val (.int e_1), .val (.int e_2), .val (.ref b6), .val (.ref b7), .val (.ref b8), .val (.ref b8), .val (.ref bp)] [(.ref bp)])) _
    refine XS.iconst X19.here hx rfl (hb hby at_186) ?_
    show Steps p.tables e below (T19.setTop (mkF m 187 #[.val (.int p1), .val (.int p2), .val (.int p3), .val (.int p4), .val (.int p5), .val (.int (3 : Int32)), .val (.int wk), .val (.int e_0), .val (.int e_1), .val (.int e_2), .val (.ref b6), .val (.ref b7), .val (.ref b8), .val (.ref b8), .val (.ref bp)] [(.int (1 : Int32)), (.ref bp)])) _
    refine st20.trans ?_
    show Steps p.tables e below (T20.setTop (mkF m 190 #[.val (.int p1), .val (.int p2), .val (.int p3), .val (.int p4), .val (.int p5), .val (.int (3 : Int32)), .val (.int wk), .val (.int e_0), .val (.int e_1), .val (.int e_2), .val (.ref b6), .val (.ref b7), .val (.ref b8), .val (.ref b8), .val (.ref bp)] [(.int e_1)])) _
    refine XS.iload X20.here hx rfl (hb hby at_190) rfl ?_
    show Steps p.tables e below (T20.setTop (mkF m 192 #[.val (.int p1), .val (.int p2), .val (.int p3), .val (.int p4), .val (.int p5), .val (.int (3 : Int32)), .val (.int wk), .val (.int e_0), .val (.int e_1), .val (.int e_2), .val (.ref b6), .val (.ref b7), .val (.ref b8), .val (.ref b8), .val (.ref bp)] [(.int e_1), (.int e_1)])) _
    refine XS.icmpYes X20.here hx rfl (pc0 := 192) (pc' := 197) rfl (hb hby at_192) rfl (teq (rfl : e_1 = e_1)).1 (by decide) (by decide) ?_
    show Steps p.tables e below (T20.setTop (mkF m 197 #[.val (.int p1), .val (.int p2), .val (.int p3), .val (.int p4), .val (.int p5), .val (.int (3 : Int32)), .val (.int wk), .val (.int e_0), .val (.int e_1), .val (.int e_2), .val (.ref b6), .val (.ref b7), .val (.ref b8), .val (.ref b8), .val (.ref bp)] [])) _
    refine XS.iload X20.here hx rfl (hb hby at_197) rfl ?_
    show Steps p.tables e below (T20.setTop (mkF m 199 #[.val (.int p1), .val (.int p2), .val (.int p3), .val (.int p4), .val (.int p5), .val (.int (3 : Int32)), .val (.int wk), .val (.int e_0), .val (.int e_1), .val (.int e_2), .val (.ref b6), .val (.ref b7), .val (.ref b8), .val (.ref b8), .val (.ref bp)] [(.int (3 : Int32))])) _
    refine XS.iconst X20.here hx rfl (hb hby at_199) ?_
    show Steps p.tables e below (T20.setTop (mkF m 200 #[.val (.int p1), .val (.int p2), .val (.int p3), .val (.int p4), .val (.int p5), .val (.int (3 : Int32)), .val (.int wk), .val (.int e_0), .val (.int e_1), .val (.int e_2), .val (.ref b6), .val (.ref b7), .val (.ref b8), .val (.ref b8), .val (.ref bp)] [(.int (3 : Int32)), (.int (3 : Int32))])) _
    refine XS.icmpNo X20.here hx rfl (hb hby at_200) rfl (flt hc200).1 ?_
    show Steps p.tables e below (T20.setTop (mkF m 203 #[.val (.int p1), .val (.int p2), .val (.int p3), .val (.int p4), .val (.int p5), .val (.int (3 : Int32)), .val (.int wk), .val (.int e_0), .val (.int e_1), .val (.int e_2), .val (.ref b6), .val (.ref b7), .val (.ref b8), .val (.ref b8), .val (.ref bp)] [])) _
    refine XS.aload X20.here hx rfl (hb hby at_203) rfl rfl ?_
    show Steps p.tables e below (T20.setTop (mkF m 205 #[.val (.int p1), .val (.int p2), .val (.int p3), .val (.int p4), .val (.int p5), .val (.int (3 : Int32)), .val (.int wk), .val (.int e_0), .val (.int e_1), .val (.int e_2), .val (.ref b6), .val (.ref b7), .val (.ref b8), .val (.ref b8), .val (.ref bp)] [(.ref bp)])) _
    refine XS.iconst X20.here hx rfl (hb hby at_205) ?_
    show Steps p.tables e below (T20.setTop (mkF m 206 #[.val (.int p1), .val (.int p2), .val (.int p3), .val (.int p4), .val (.int p5), .val (.int (3 : Int32)), .val (.int wk), .val (.int e_0), .val (.int e_1), .val (.int e_2), .val (.ref b6), .val (.ref b7), .val (.ref b8), .val (.ref b8), .val (.ref bp)] [(.int (2 : Int32)), (.ref bp)])) _
    refine st21.trans ?_
    show Steps p.tables e below (T21.setTop (mkF m 209 #[.val (.int p1), .val (.int p2), .val (.int p3), .val (.int p4), .val (.int p5), .val (.int (3 : Int32)), .val (.int wk), .val (.int e_0), .val (.int e_1), .val (.int e_2), .val (.ref b6), .val (.ref b7), .val (.ref b8), .val (.ref b8), .val (.ref bp)] [(.int e_2)])) _
    refine XS.iload X21.here hx rfl (hb hby at_209) rfl ?_
    show Steps p.tables e below (T21.setTop (mkF m 211 #[.val (.int p1), .val (.int p2), .val (.int p3), .val (.int p4), .val (.int p5), .val (.int (3 : Int32)), .val (.int wk), .val (.int e_0), .val (.int e_1), .val (.int e_2), .val (.ref b6), .val (.ref b7), .val (.ref b8), .val (.ref b8), .val (.ref bp)] [(.int e_2), (.int e_2)])) _
    refine XS.icmpYes X21.here hx rfl (pc0 := 211) (pc' := 216) rfl (hb hby at_211) rfl (teq (rfl : e_2 = e_2)).1 (by decide) (by decide) ?_
    show Steps p.tables e below (T21.setTop (mkF m 216 #[.val (.int p1), .val (.int p2), .val (.int p3), .val (.int p4), .val (.int p5), .val (.int (3 : Int32)), .val (.int wk), .val (.int e_0), .val (.int e_1), .val (.int e_2), .val (.ref b6), .val (.ref b7), .val (.ref b8), .val (.ref b8), .val (.ref bp)] [])) _
    refine XS.iconst X21.here hx rfl (hb hby at_216) ?_
    show Steps p.tables e below (T21.setTop (mkF m 217 #[.val (.int p1), .val (.int p2), .val (.int p3), .val (.int p4), .val (.int p5), .val (.int (3 : Int32)), .val (.int wk), .val (.int e_0), .val (.int e_1), .val (.int e_2), .val (.ref b6), .val (.ref b7), .val (.ref b8), .val (.ref b8), .val (.ref bp)] [(.int (1 : Int32))])) _
    exact retN X21 hx (t := .boolean) Bd.returns (by simp) (hb hby at_217) hr
  · show Q0 Z p1 p2 p3 p4 p5 h0 n0 _ T21.heap _
    exact ⟨rfl, N21⟩

theorem rm0 (l : Launch) (Z : State) (a0 : Array Value) (hw : ∀ d ∈ tables_1, d.before a0 Z = true) (ws : List Jvm.Cond) (p1 : Int32) (p2 : Int32) (p3 : Int32) (p4 : Int32) (p5 : Int32) (h0 : Heap) (n0 : Nat) (Z0 : n0 ≤ h0.size) :
    MetFree l x (head1 (Jvm.Cond.code x code maxLocals ret :: ws) room_1) (fun a U => a = #[(.int p1), (.int p2), (.int p3), (.int p4), (.int p5)] ∧ Z.Warmed39 U.vm ∧ U.heap = h0) (fun _ _ _ _ _ => True) (fun _ U o U' => ∃ v L, o = .returned v ∧ Q0 Z p1 p2 p3 p4 p5 h0 n0 v U'.heap L ∧ FrameEnd U o U' L room_1.cells room_1.slots) := by
  rcases own_len p1 with h | h | h
  · exact rm0_1 l Z a0 hw ws p1 p2 p3 p4 p5 h0 n0 Z0 h (by decide) (by decide) (by decide)
  · exact rm0_2 l Z a0 hw ws p1 p2 p3 p4 p5 h0 n0 Z0 h (by decide) (by decide) (by decide) (by decide)
  · exact rm0_3 l Z a0 hw ws p1 p2 p3 p4 p5 h0 n0 Z0 h (by decide) (by decide) (by decide) (by decide)

set_option maxRecDepth 65536 in
set_option maxHeartbeats 40000000 in
theorem comes_1 {Post : Tables → Env → Array Value → State → Outcome → State → Prop} (hpost : ∀ tb e args s v u, (limb_1_1.after args s (.returned v) u = true ∧ limb_1_2.after args s (.returned v) u = true ∧ True) → FrameEnd s (.returned v) u (Jvm.fieldLocs frame_1_writes args s ++ Jvm.arrayLocs frame_1_arrays args s ++ Jvm.staticLocs frame_1_statics s) 24 128 → Post tb e args s (.returned v) u) :
    ArmFor flags0 classFile x code maxLocals ret World_1 tables_1 room_1 Calls_1 rest_1 Pre_1 Post := by
  intro l hfl _ _ p e ha hc hk s m args below hf hA hF happ hP
  obtain ⟨hcalls, hrest, hpre⟩ := hP
  obtain ⟨-, -, -, hnamed, -, -, -, hat⟩ := (Spec.applies_iff hf).mp happ
  obtain ⟨hg, hn⟩ := and_e (Cond.before_iff.mp (show (Jvm.Cond.and given_1 narrow_1).before args s = true from hpre))
  obtain ⟨g22, g23⟩ := and_e hg
  obtain ⟨g24, g25⟩ := and_e g23
  obtain ⟨g26, g27⟩ := and_e g25
  obtain ⟨g28, g29⟩ := and_e g27
  obtain ⟨g30, g31⟩ := and_e g29
  obtain ⟨w0, w1, w2, w3, w4, rfl⟩ : ∃ w0 w1 w2 w3 w4 : Value, args = #[w0, w1, w2, w3, w4] := by
    have hs : args.size = 5 := by simpa [Cond.value, given_1] using g22
    obtain ⟨L⟩ := args
    match L, hs with
    | [w0, w1, w2, w3, w4], _ => exact ⟨w0, w1, w2, w3, w4, rfl⟩
  have hw := fun d (hd : d ∈ tables_1) => atoms_spec (ws := Jvm.Cond.code x code maxLocals ret :: tables_1) hat d (List.mem_cons_of_mem _ hd)
  have hfit : Fit s := fun {y c} hc i hi => by
    obtain ⟨ha, rfl⟩ := Array.getElem?_eq_some_iff.mp hc
    have q := List.all_eq_true.mp ((Array.all_eq_true_iff_forall_mem.mp hF) _ (Array.getElem_mem ha)) i (List.mem_range.mpr hi)
    simpa [Array.getElem?_eq_getElem hi] using q
  obtain ⟨i0, ei0⟩ := is_v g24
  obtain rfl : w0 = (.int i0) := Option.some.inj ei0
  obtain ⟨i1, ei1⟩ := is_v g26
  obtain rfl : w1 = (.int i1) := Option.some.inj ei1
  obtain ⟨i2, ei2⟩ := is_v g28
  obtain rfl : w2 = (.int i2) := Option.some.inj ei2
  obtain ⟨i3, ei3⟩ := is_v g30
  obtain rfl : w3 = (.int i3) := Option.some.inj ei3
  obtain ⟨i4, ei4⟩ := is_v g31
  obtain rfl : w4 = (.int i4) := Option.some.inj ei4
  obtain ⟨n, o, h1, h2, h3, _, L, rfl, ⟨rfl, N⟩, hq⟩ := rm0 l s _ hw tables_1 i0 i1 i2 i3 i4 s.heap s.heap.size (Nat.le_refl _) p e ha hc hk s m _ below hf ((Spec.applies_iff_loose hf).mp happ).1 ⟨rfl, State.Warmed39.refl s, rfl⟩ trivial
  refine ⟨n, _, h1, h2, h3, hpost _ _ _ _ _ _ ⟨Cond.after_iff.mpr rfl, Cond.after_iff.mpr (eq_i res_at (Term.int_eval (1)) rfl), trivial⟩ ⟨hq.1, hq.2.1, (hq.2.2.sift fun y hy => Or.inr (N y hy)).mono (by decide) (by decide)⟩⟩
theorem main_1_1 : Claimed_1_1 := comes_1 fun _ _ _ _ _ _ h hF => ⟨h.1, hF⟩
theorem main_1_2 : Claimed_1_2 := comes_1 fun _ _ _ _ _ _ h hF => ⟨h.2.1, hF⟩

end Jvm.Pilot.@@N@@
namespace Jvm.Pilot.@@N@@
open Jvm Jvm.ClassFile Sem Op Lib Jvm.Free Jvm.Stand Jvm.Pilot.@@N@@.Jvm.D
/-! MADE BY PROGRAM (witnessworld.py) out of the Statement's table words and the real class files: 9 classes; the members and pool entries that the words name. The judged class is class 1, her method 1. -/
namespace start1
open Jvm.ClassFile
def u (s : String) : CpInfo := .utf8 (stringToUtf16 s)
/-- a pool by its gaps: so many unusable entries, then the entry; so many at the end -/
def gap : Nat → List CpInfo → List CpInfo
  | 0, r => r
  | n + 1, r => .unusable :: gap n r
def poolList (es : List (Nat × CpInfo)) (last : Nat) : List CpInfo := es.foldr (fun e r => gap e.1 (e.2 :: r)) (gap last [])
def pool (es : List (Nat × CpInfo)) (last : Nat) : Array CpInfo := ⟨poolList es last⟩
def fileOf (pool : Array CpInfo) (this : Nat) (attrs : Array Attribute := #[]) (ms : Array MethodInfo := #[]) (fl : Nat := 33) (sup : Nat := 0) (ifs : Array Nat := #[]) (fds : Array FieldInfo := #[]) : ClassFile where
  minorVersion := 0
  majorVersion := 65
  constantPool := pool
  accessFlags := fl
  thisClass := this
  superClass := sup
  interfaces := ifs
  fields := fds
  methods := ms
  attributes := attrs
def plain (name : String) (sup : Option ClassId) : Class where
  name := name
  kind := .ordinary
  loader := none
  accessFlags := 33
  super := sup
  interfaces := #[]
  cf := none
  fields := #[]
  methods := #[]
  instanceTypes := #[]
  staticTypes := #[]
  resolved := #[]
  callSites := []
  init := .initialized
  statics := none
  mirror := none

def pool0 : Array CpInfo := pool [(5, u "<init>"), (0, u "()V"), (1, .class_ 10), (1, u "java/lang/Object"), (85, u "clone"), (0, u "()Ljava/lang/Object;")] 26

def k0c0 : Code := { maxStack := 0, maxLocals := 1, code := object_method_1_code, exceptionTable := #[], attributes := #[] }
def k0m0 : Method := { name := "<init>", desc := "()V", sig := { parameters := [], returnType := none }, accessFlags := 1, code := some k0c0 }
def k0m1 : Method := { name := "clone", desc := "()Ljava/lang/Object;", sig := { parameters := [], returnType := some (.object "java/lang/Object") }, accessFlags := 260, code := none }
/-- java/lang/Object -/
def k0 : Class := { plain "java/lang/Object" none with
  accessFlags := 33
  interfaces := #[]
  cf := some (fileOf pool0 8 #[] #[{ accessFlags := 1, nameIndex := 5, descriptorIndex := 6, attributes := #[] }, { accessFlags := 260, nameIndex := 96, descriptorIndex := 97, attributes := #[] }] 33 0 #[] #[])
  fields := #[]
  methods := #[k0m0, k0m1]
  instanceTypes := #[]
  staticTypes := #[]
  resolved := Array.replicate 124 none
  statics := none }

def pool1 : Array CpInfo := pool [(2, .class_ 4), (1, u "java/lang/Object"), (0, u "<init>"), (0, u "()V"), (0, .integer 2147483647), (0, .methodref 9 10), (0, .class_ 11), (0, .nameAndType 12 13), (0, u "com/example/ballast/ballast/Placement"), (0, u "of"), (0, u "(I[I)Lcom/example/ballast/ballast/Placement;"), (0, .methodref 9 15), (0, .nameAndType 16 17), (0, u "partitions"), (0, u "()I"), (0, .methodref 9 19), (0, .nameAndType 20 17), (0, u "workers"), (0, .methodref 9 22), (0, .nameAndType 23 24), (0, u "workerOf"), (0, u "(I)I"), (0, .class_ 26), (0, u "com/example/ballast/ballast/PlacementOfPinLaw"), (2, u "law"), (0, u "(IIIII)Z")] 5

def k1m0 : Method := { name := "<init>", desc := "()V", sig := { parameters := [], returnType := none }, accessFlags := 1, code := none }
def k1c1 : Code := { maxStack := 3, maxLocals := 15, code := code, exceptionTable := #[], attributes := #[] }
def k1m1 : Method := { name := "law", desc := "(IIIII)Z", sig := { parameters := [.int, .int, .int, .int, .int], returnType := some .boolean }, accessFlags := 9, code := some k1c1 }
/-- com/example/ballast/ballast/PlacementOfPinLaw -/
def k1 : Class := { plain "com/example/ballast/ballast/PlacementOfPinLaw" (some 0) with
  accessFlags := 49
  interfaces := #[]
  cf := some (fileOf pool1 25 #[] #[{ accessFlags := 1, nameIndex := 5, descriptorIndex := 6, attributes := #[] }, { accessFlags := 9, nameIndex := 29, descriptorIndex := 30, attributes := #[] }] 49 2 #[] #[])
  fields := #[]
  methods := #[k1m0, k1m1]
  instanceTypes := #[]
  staticTypes := #[]
  resolved := Array.replicate 36 none
  statics := none }

def pool2 : Array CpInfo := pool [(1, .methodref 2 3), (0, .class_ 4), (0, .nameAndType 5 6), (0, u "java/lang/Object"), (0, u "<init>"), (0, u "()V"), (0, .fieldref 8 9), (0, .class_ 10), (0, .nameAndType 11 12), (0, u "com/example/ballast/ballast/Placement"), (0, u "workers"), (0, u "I"), (0, .fieldref 8 14), (0, .nameAndType 15 16), (0, u "workerOf"), (0, u "[I"), (0, .methodref 8 18), (0, .nameAndType 19 20), (0, u "checkWorkers"), (0, u "(II)V"), (0, .methodref 8 22), (0, .nameAndType 5 23), (0, u "(I[I)V"), (19, .methodref 44 45), (0, .class_ 16), (0, .nameAndType 46 47), (0, u "clone"), (0, u "()Ljava/lang/Object;"), (5, u "()I"), (3, u "(I)I"), (13, u "of"), (0, u "(I[I)Lcom/example/ballast/ballast/Placement;"), (0, u "partitions")] 8

def k2c0 : Code := { maxStack := 2, maxLocals := 3, code := prog_25_method_1_code, exceptionTable := #[], attributes := #[] }
def k2m0 : Method := { name := "<init>", desc := "(I[I)V", sig := { parameters := [.int, (.array .int)], returnType := none }, accessFlags := 2, code := some k2c0 }
def k2c1 : Code := { maxStack := 8, maxLocals := 5, code := prog_25_method_3_code, exceptionTable := #[], attributes := #[] }
def k2m1 : Method := { name := "of", desc := "(I[I)Lcom/example/ballast/ballast/Placement;", sig := { parameters := [.int, (.array .int)], returnType := some (.object "com/example/ballast/ballast/Placement") }, accessFlags := 9, code := some k2c1 }
def k2c2 : Code := { maxStack := 7, maxLocals := 3, code := prog_25_method_4_code, exceptionTable := #[], attributes := #[] }
def k2m2 : Method := { name := "checkWorkers", desc := "(II)V", sig := { parameters := [.int, .int], returnType := none }, accessFlags := 8, code := some k2c2 }
def k2c3 : Code := { maxStack := 1, maxLocals := 1, code := prog_25_method_5_code, exceptionTable := #[], attributes := #[] }
def k2m3 : Method := { name := "partitions", desc := "()I", sig := { parameters := [], returnType := some .int }, accessFlags := 1, code := some k2c3 }
def k2c4 : Code := { maxStack := 1, maxLocals := 1, code := prog_25_method_6_code, exceptionTable := #[], attributes := #[] }
def k2m4 : Method := { name := "workers", desc := "()I", sig := { parameters := [], returnType := some .int }, accessFlags := 1, code := some k2c4 }
def k2c5 : Code := { maxStack := 2, maxLocals := 2, code := prog_25_method_7_code, exceptionTable := #[], attributes := #[] }
def k2m5 : Method := { name := "workerOf", desc := "(I)I", sig := { parameters := [.int], returnType := some .int }, accessFlags := 1, code := some k2c5 }
/-- com/example/ballast/ballast/Placement -/
def k2 : Class := { plain "com/example/ballast/ballast/Placement" (some 0) with
  accessFlags := 49
  interfaces := #[]
  cf := some (fileOf pool2 8 #[] #[{ accessFlags := 2, nameIndex := 5, descriptorIndex := 23, attributes := #[] }, { accessFlags := 9, nameIndex := 71, descriptorIndex := 72, attributes := #[] }, { accessFlags := 8, nameIndex := 19, descriptorIndex := 20, attributes := #[] }, { accessFlags := 1, nameIndex := 73, descriptorIndex := 53, attributes := #[] }, { accessFlags := 1, nameIndex := 11, descriptorIndex := 53, attributes := #[] }, { accessFlags := 1, nameIndex := 15, descriptorIndex := 57, attributes := #[] }] 49 2 #[] #[{ accessFlags := 18, nameIndex := 11, descriptorIndex := 12, attributes := #[] }, { accessFlags := 18, nameIndex := 15, descriptorIndex := 16, attributes := #[] }])
  fields := #[{ name := "workers", type := .int, accessFlags := 18, slot := 0, constantValue := 0 }, { name := "workerOf", type := (.array .int), accessFlags := 18, slot := 1, constantValue := 0 }]
  methods := #[k2m0, k2m1, k2m2, k2m3, k2m4, k2m5]
  instanceTypes := #[.int, (.array .int)]
  staticTypes := #[]
  resolved := Array.replicate 82 none
  statics := none }

def pool3 : Array CpInfo := pool [(1, .class_ 2), (0, u "java/lang/Cloneable"), (0, .class_ 4), (0, u "java/lang/Object")] 2

/-- java/lang/Cloneable -/
def k3 : Class := { plain "java/lang/Cloneable" (some 0) with
  accessFlags := 1537
  interfaces := #[]
  cf := some (fileOf pool3 1 #[] #[] 1537 3 #[] #[])
  fields := #[]
  methods := #[]
  instanceTypes := #[]
  staticTypes := #[]
  resolved := Array.replicate 7 none
  statics := none }

def pool4 : Array CpInfo := pool [(1, u "java/io/Serializable"), (0, .class_ 1), (0, u "java/lang/Object"), (0, .class_ 3)] 3

/-- java/io/Serializable -/
def k4 : Class := { plain "java/io/Serializable" (some 0) with
  accessFlags := 1537
  interfaces := #[]
  cf := some (fileOf pool4 2 #[] #[] 1537 4 #[] #[])
  fields := #[]
  methods := #[]
  instanceTypes := #[]
  staticTypes := #[]
  resolved := Array.replicate 8 none
  statics := none }

/-- the primitive byte -/
def k5 : Class := { plain "byte" none with kind := .primitive 'B', accessFlags := 0x411 }
/-- [B -/
def k6 : Class := { plain "[B" (some 0) with kind := .array 5 .byte, interfaces := #[3, 4], accessFlags := 1041 }

/-- the primitive int -/
def k7 : Class := { plain "int" none with kind := .primitive 'I', accessFlags := 0x411 }
/-- [I -/
def k8 : Class := { plain "[I" (some 0) with kind := .array 7 .int, interfaces := #[3, 4], accessFlags := 1041 }

def heap : Heap := #[]
def classes : Array Class := #[k0, k1, k2, k3, k4, k5, k6, k7, k8]
def interned : List (Array UInt16 × Addr) := []
def slotsUsed : Nat := 0
def theMethod : MethodId := ⟨1, 1⟩
def args0 : Array Value := #[.int 5, .int 6, .int 7, .int 8, .int 9]
def aboutOver (below : List Frame) : State where
  vm := { classes := classes, interned := interned.toArray }
  heap := heap
  slotsUsed := slotsUsed
  threads := #[{ frames := .invoking theMethod args0 :: below }]
def below0 : List Frame := [.native { method := ⟨0, 0⟩, args := #[] }]
def about1 : State := aboutOver below0
def p0 : Program := .bare "" "" ""
def e0 : Env := launch0.env 0 0 0
theorem w_frames : about1.frames = Frame.invoking theMethod args0 :: below0 := rfl
set_option maxRecDepth 65536 in
theorem w_args : argsFit about1.vm theMethod args0 = true := by decide +kernel
set_option maxRecDepth 65536 in
theorem w_heap : heapFits about1 = true := by decide +kernel
set_option maxRecDepth 65536 in
theorem w_runnable : about1.curStatus? = some .runnable := by decide +kernel
set_option maxRecDepth 65536 in
theorem w_alone : about1.alone = true := by decide +kernel
set_option maxRecDepth 65536 in
theorem w_named : about1.methodNamed? x = some theMethod := by decide +kernel
set_option maxRecDepth 65536 in
theorem w_hears : about1.hears theMethod below0 = true := by decide +kernel
set_option maxRecDepth 65536 in
theorem w_ripe : about1.ripe theMethod args0 below0 = true := by decide +kernel
theorem w_running : about1.status = .running := rfl
set_option maxRecDepth 65536 in
theorem w_room : about1.hasRoom e0.platform room_1 = true :=
  launch0.hasRoom_least _ room_1 (by decide +kernel) (by decide +kernel) (by decide +kernel) (by decide +kernel) (by decide +kernel) (by decide +kernel)
theorem allAtoms_all (ts : List Jvm.Cond) (a : Array Jvm.Value) (st : Jvm.State) : (allAtoms ts).before a st = ts.all (fun c => c.before a st) := by
  induction ts with
  | nil => rfl
  | cons c t ih =>
    show (Jvm.Cond.and c (allAtoms t)).before a st = _
    rw [Jvm.Cond.before_and, ih, List.all_cons]
def words1 : List Jvm.Cond := Jvm.Cond.code x code maxLocals ret :: tables_1
/-- a 'code' word, met by the world's own term for the bytes: nothing is compared byte by byte -/
theorem code_word {y : MethodName} {bytes : ByteArray} {mx : Nat} {rt : Option FieldType} {a : Array Value} {s : State} {m : MethodId} {meth : Method} {c : Code} (h1 : s.methodNamed? y = some m) (h2 : s.vm.method? m = some meth) (h3 : meth.code = some c) (h4 : c.code = bytes)
    (h5 : (c.maxLocals == mx && c.exceptionTable.isEmpty && decide (c.maxStack ≤ mostOperands) && decide (meth.sig.returnType = rt) && !meth.locks && decide (parseMethodDescriptor y.desc = some meth.sig)) = true) : (Jvm.Cond.code y bytes mx rt).before a s = true := by
  simp only [Bool.and_eq_true, beq_iff_eq, Bool.not_eq_true', decide_eq_true_eq] at h5
  obtain ⟨⟨⟨⟨⟨g1, g2⟩, g3⟩, g4⟩, g5⟩, g6⟩ := h5
  simp [Cond.before, Cond.holds, Cond.value, h1, h2, h3, h4, g1, g2, g3, g4, g5, g6]
def isCode : Jvm.Cond → Bool
  | .code _ _ _ _ => true
  | _ => false
theorem all_split {L : List Jvm.Cond} {P : Jvm.Cond → Bool} (h1 : L.all (fun c => isCode c || P c) = true) (h2 : ∀ c ∈ L.filter isCode, P c = true) : L.all P = true := by
  refine List.all_eq_true.mpr fun c hc => ?_
  have h := List.all_eq_true.mp h1 c hc
  rcases Bool.eq_false_or_eq_true (isCode c) with hi | hi
  · exact h2 c (List.mem_filter.mpr ⟨hc, hi⟩)
  · simpa [hi] using h
set_option maxRecDepth 65536 in
theorem w_c0 : (Jvm.Cond.code x code maxLocals ret).before args0 about1 = true := code_word (m := ⟨1, 1⟩) (meth := k1m1) (c := k1c1) (by decide +kernel) rfl rfl rfl (by decide +kernel)
set_option maxRecDepth 65536 in
theorem w_c1 : (Jvm.Cond.code ({ cls := "com/example/ballast/ballast/Placement", name := "of", desc := "(I[I)Lcom/example/ballast/ballast/Placement;" } : Jvm.MethodName) prog_25_method_3_code (5 : Nat) (Option.some (Jvm.ClassFile.FieldType.object "com/example/ballast/ballast/Placement"))).before args0 about1 = true := code_word (m := ⟨2, 1⟩) (meth := k2m1) (c := k2c1) (by decide +kernel) rfl rfl rfl (by decide +kernel)
set_option maxRecDepth 65536 in
theorem w_c2 : (Jvm.Cond.code ({ cls := "com/example/ballast/ballast/Placement", name := "checkWorkers", desc := "(II)V" } : Jvm.MethodName) prog_25_method_4_code (3 : Nat) (Option.none : Option Jvm.ClassFile.FieldType)).before args0 about1 = true := code_word (m := ⟨2, 2⟩) (meth := k2m2) (c := k2c2) (by decide +kernel) rfl rfl rfl (by decide +kernel)
set_option maxRecDepth 65536 in
theorem w_c3 : (Jvm.Cond.code ({ cls := "com/example/ballast/ballast/Placement", name := "<init>", desc := "(I[I)V" } : Jvm.MethodName) prog_25_method_1_code (3 : Nat) (Option.none : Option Jvm.ClassFile.FieldType)).before args0 about1 = true := code_word (m := ⟨2, 0⟩) (meth := k2m0) (c := k2c0) (by decide +kernel) rfl rfl rfl (by decide +kernel)
set_option maxRecDepth 65536 in
theorem w_c4 : (Jvm.Cond.code ({ cls := "java/lang/Object", name := "<init>", desc := "()V" } : Jvm.MethodName) object_method_1_code (1 : Nat) (Option.none : Option Jvm.ClassFile.FieldType)).before args0 about1 = true := code_word (m := ⟨0, 0⟩) (meth := k0m0) (c := k0c0) (by decide +kernel) rfl rfl rfl (by decide +kernel)
set_option maxRecDepth 65536 in
theorem w_c5 : (Jvm.Cond.code ({ cls := "com/example/ballast/ballast/Placement", name := "partitions", desc := "()I" } : Jvm.MethodName) prog_25_method_5_code (1 : Nat) (Option.some Jvm.ClassFile.FieldType.int)).before args0 about1 = true := code_word (m := ⟨2, 3⟩) (meth := k2m3) (c := k2c3) (by decide +kernel) rfl rfl rfl (by decide +kernel)
set_option maxRecDepth 65536 in
theorem w_c6 : (Jvm.Cond.code ({ cls := "com/example/ballast/ballast/Placement", name := "workers", desc := "()I" } : Jvm.MethodName) prog_25_method_6_code (1 : Nat) (Option.some Jvm.ClassFile.FieldType.int)).before args0 about1 = true := code_word (m := ⟨2, 4⟩) (meth := k2m4) (c := k2c4) (by decide +kernel) rfl rfl rfl (by decide +kernel)
set_option maxRecDepth 65536 in
theorem w_c7 : (Jvm.Cond.code ({ cls := "com/example/ballast/ballast/Placement", name := "workerOf", desc := "(I)I" } : Jvm.MethodName) prog_25_method_7_code (2 : Nat) (Option.some Jvm.ClassFile.FieldType.int)).before args0 about1 = true := code_word (m := ⟨2, 5⟩) (meth := k2m5) (c := k2c5) (by decide +kernel) rfl rfl rfl (by decide +kernel)
def codes1 : List Jvm.Cond := [Jvm.Cond.code x code maxLocals ret, Jvm.Cond.code ({ cls := "com/example/ballast/ballast/Placement", name := "of", desc := "(I[I)Lcom/example/ballast/ballast/Placement;" } : Jvm.MethodName) prog_25_method_3_code (5 : Nat) (Option.some (Jvm.ClassFile.FieldType.object "com/example/ballast/ballast/Placement")), Jvm.Cond.code ({ cls := "com/example/ballast/ballast/Placement", name := "checkWorkers", desc := "(II)V" } : Jvm.MethodName) prog_25_method_4_code (3 : Nat) (Option.none : Option Jvm.ClassFile.FieldType), Jvm.Cond.code ({ cls := "com/example/ballast/ballast/Placement", name := "<init>", desc := "(I[I)V" } : Jvm.MethodName) prog_25_method_1_code (3 : Nat) (Option.none : Option Jvm.ClassFile.FieldType), Jvm.Cond.code ({ cls := "java/lang/Object", name := "<init>", desc := "()V" } : Jvm.MethodName) object_method_1_code (1 : Nat) (Option.none : Option Jvm.ClassFile.FieldType), Jvm.Cond.code ({ cls := "com/example/ballast/ballast/Placement", name := "partitions", desc := "()I" } : Jvm.MethodName) prog_25_method_5_code (1 : Nat) (Option.some Jvm.ClassFile.FieldType.int), Jvm.Cond.code ({ cls := "com/example/ballast/ballast/Placement", name := "workers", desc := "()I" } : Jvm.MethodName) prog_25_method_6_code (1 : Nat) (Option.some Jvm.ClassFile.FieldType.int), Jvm.Cond.code ({ cls := "com/example/ballast/ballast/Placement", name := "workerOf", desc := "(I)I" } : Jvm.MethodName) prog_25_method_7_code (2 : Nat) (Option.some Jvm.ClassFile.FieldType.int)]
set_option maxRecDepth 65536 in
theorem codes_eq : words1.filter isCode = codes1 := rfl
theorem w_codes : ∀ c ∈ words1.filter isCode, c.before args0 about1 = true := by
  rw [codes_eq]
  intro c hc
  simp only [codes1, List.mem_cons, List.not_mem_nil, or_false] at hc
  rcases hc with rfl | rfl | rfl | rfl | rfl | rfl | rfl | rfl
  · exact w_c0
  · exact w_c1
  · exact w_c2
  · exact w_c3
  · exact w_c4
  · exact w_c5
  · exact w_c6
  · exact w_c7
set_option maxRecDepth 65536 in
theorem w_t1 : (words1.take 24).all (fun c => isCode c || c.before args0 about1) = true := by decide +kernel
set_option maxRecDepth 65536 in
theorem w_t2 : (words1.drop 24).all (fun c => isCode c || c.before args0 about1) = true := by decide +kernel
theorem w_tables : (allAtoms (Jvm.Cond.code x code maxLocals ret :: tables_1)).before args0 about1 = true := by
  rw [allAtoms_all]
  show words1.all (fun c => c.before args0 about1) = true
  refine all_split ?_ w_codes
  rw [← List.take_append_drop 24 words1, List.all_append, w_t1, w_t2]
  rfl
set_option maxRecDepth 65536 in
theorem w_case : (Jvm.Cond.and given_1 narrow_1).before args0 about1 = true := by decide +kernel
theorem w_applies : (headSpec (Jvm.Cond.code x code maxLocals ret :: tables_1) room_1).applies x e0.platform about1 = true :=
  (Spec.applies_iff w_frames).mpr ⟨w_running, w_runnable, w_alone, w_named, w_hears, w_ripe, w_room, w_tables⟩
theorem atStart : AtStart classFile x code maxLocals ret World_1 tables_1 room_1 Calls_1 rest_1 Pre_1 launch0 p0 e0 about1 theMethod args0 below0 :=
  ⟨lists_1, trivial, launch0.admits_env _ _ _, launch0.least_env, fairChoices_fair.cas, fairChoices_fair.clock, w_frames, w_args, w_heap, w_applies, trivial, trivial, w_case⟩
end start1
theorem witness_1 : WitnessClaimed_1 := ⟨start1.p0, start1.e0, start1.about1, start1.theMethod, start1.args0, start1.below0, start1.atStart⟩
end Jvm.Pilot.@@N@@
