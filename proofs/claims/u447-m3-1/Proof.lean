import JvmDerived
import JvmDerived.Pilot.@@N@@Statement
import JvmDerived.Pilot.@@N@@Code
set_option linter.unusedVariables false
set_option linter.unusedSimpArgs false
namespace Jvm.RoadKit
open Sem ClassFile Op Lib Jvm.Stand Jvm.Free Jvm.LawKit
section New
variable {p : Program} {l : Launch} {e : Env} {R : Room} {s : State} {m : MethodId} {args : Array Value} {below : List Frame} {meth : Method} {c : Code} {T : State} {locs : List Loc} {cells slots : Nat}
theorem retI (X : Stand p l e R s m args below meth c T locs cells slots) (hx : p.tables.exec = Jvm.exec) {pc : Nat} {Ls : Array Slot} {z : Int32} {rest : List Value} (hret : meth.sig.returnType = some .int) (hd : decode c.code pc = .ok (.ireturn, 1)) {fs : List Frame}
    (hl : ∀ (f : JFrame) (acts : List Action), f.method = m → f.locked = none → f.entered = [] → (doReturn e (T.setTop f) acts (some (.int z))).1 = T.setFrames fs) : Steps p.tables e below (T.setTop (mkF m pc Ls (.int z :: rest))) (T.setFrames fs) := by
  have hm' : T.vm.method? m = some meth := X.method'
  have hn : narrow .int (.int z) = .int z := rfl
  show Steps p.tables e below (T.setTop { method := m, pc := pc, locals := Ls, stack := _ :: rest, locked := none }) _
  jvm_step X.here [X.here.top, hx, hd, hm', hret, hn]
  first | (intro acts; rw [hl _ acts rfl rfl rfl]) | rw [hl _ _ rfl rfl rfl]
  exact Steps.refl _
end New
end Jvm.RoadKit
namespace Jvm.Pilot.@@N@@
open Jvm Jvm.ClassFile Sem Op Lib Jvm.Free Jvm.Stand Jvm.LawKit Jvm.RoadKit Bundle Jvm.Pilot.@@N@@.Jvm.D

/-- what a body leaves that returns r and writes nothing -/
def QR (r : Value) (h0 : Heap) (n0 : Nat) (v : Option Value) (h : Heap) (L : List Loc) : Prop := v = some r ∧ Fr n0 L ∧ h = h0
/-- what a body leaves that returns nothing and writes nothing -/
def QN (h0 : Heap) (n0 : Nat) (v : Option Value) (h : Heap) (L : List Loc) : Prop := v = none ∧ Fr n0 L ∧ h = h0

/-- the array of 21 longs at a holds f -/
def own_A (Z : State) (h : Heap) (a : Addr) (f : Nat → Int64) : Prop := ∃ c : Cell, Arr Z h a c .long ∧ c.slots.size = 21 ∧ ∀ j, j < 21 → c.slots[j]? = some (.long (f j))
theorem own_A.lt {Z : State} {h : Heap} {a : Addr} {f : Nat → Int64} (F : own_A Z h a f) : a < h.size := by obtain ⟨c, A, -⟩ := F; exact A.lt
theorem own_A.ext {Z : State} {h h' : Heap} {a : Addr} {f : Nat → Int64} (F : own_A Z h a f) (E : Ext h h') : own_A Z h' a f := by obtain ⟨c, A, r⟩ := F; exact ⟨c, A.ext E, r⟩
theorem own_A.keep {Z : State} {h h' : Heap} {a : Addr} {f : Nat → Int64} {ws : List Addr} (F : own_A Z h a f) (K : Keep h h' ws) (q : a ∉ ws) : own_A Z h' a f := by obtain ⟨c, A, r⟩ := F; exact ⟨c, ⟨K.2.1 a c A.1 q, A.2⟩, r⟩
theorem own_A.other {Z : State} {h h' : Heap} {a b : Addr} {sl : Nat} {v : Value} {f : Nat → Int64} (F : own_A Z h b f) (W : Wr h h' a sl v) (q : b ≠ a) : own_A Z h' b f := by obtain ⟨c, A, r⟩ := F; exact ⟨c, A.other W q, r⟩
/-- f with v at k -/
def own_upd (f : Nat → Int64) (k : Nat) (v : Int64) : Nat → Int64 := fun j => if j = k then v else f j
theorem own_st {Z : State} {h h' : Heap} {a : Addr} {f : Nat → Int64} {c : Cell} {k : Nat} {v : Int64} (A : Arr Z h a c .long) (S : c.slots.size = 21) (V : ∀ j, j < 21 → c.slots[j]? = some (.long (f j))) (W : Wr h h' a k (.long v)) : own_A Z h' a (own_upd f k v) := by
  refine ⟨_, A.same W, by rw [sz_set]; exact S, fun j hj => ?_⟩
  show (c.slots.setIfInBounds k (.long v))[j]? = some (.long (if j = k then v else f j))
  rw [Array.getElem?_setIfInBounds]
  by_cases q : k = j
  · rw [if_pos q, if_pos (by omega), if_pos q.symm]
  · rw [if_neg q, if_neg (fun z => q z.symm)]
    exact V j hj
theorem own_new {Z : State} {h : Heap} {a : Addr} {k : ClassId} (A : Arr Z h a (newA k .long (21 : Int32)) .long) : own_A Z h a (fun _ => 0) := by
  refine ⟨_, A, by rw [sz_new]; decide, fun j hj => ?_⟩
  show (Array.replicate (21 : Int32).toNatClampNeg (defaultValue .long))[j]? = some (.long 0)
  have e : (21 : Int32).toNatClampNeg = 21 := by decide
  rw [e, Array.getElem?_replicate, if_pos hj]
  rfl
/-- participant n's k-th place -/
theorem own_ix : ∀ n, n < 3 → ∀ k, k < 7 → ((Int32.ofNat n) * (7 : Int32) + Int32.ofNat k).toNatClampNeg = 7 * n + k ∧ ¬ ((Int32.ofNat n) * (7 : Int32) + Int32.ofNat k < 0) := by decide +kernel
theorem own_in {n k : Nat} (hn : n < 3) (hk : k < 7) {c : Cell} (S : c.slots.size = 21) : ¬ ((Int32.ofNat n) * (7 : Int32) + Int32.ofNat k < 0 ∨ c.slots.size ≤ ((Int32.ofNat n) * (7 : Int32) + Int32.ofNat k).toNatClampNeg) := by
  obtain ⟨e, q⟩ := own_ix n hn k hk
  rw [e, S]
  intro z
  rcases z with z | z
  · exact q z
  · omega
theorem own_at {n k : Nat} (hn : n < 3) (hk : k < 7) {c : Cell} {f : Nat → Int64} {v : Int64} (V : ∀ j, j < 21 → c.slots[j]? = some (.long (f j))) (hv : f (7 * n + k) = v) : c.slots[((Int32.ofNat n) * (7 : Int32) + Int32.ofNat k).toNatClampNeg]? = some (.long v) := by
  rw [(own_ix n hn k hk).1, V _ (by omega), hv]
/-- what a body leaves that writes the array at w alone -/
def QA (Z : State) (w : Addr) (f : Nat → Int64) (h0 : Heap) (n0 : Nat) (v : Option Value) (h : Heap) (L : List Loc) : Prop := v = none ∧ Fr n0 L ∧ Keep h0 h [w] ∧ own_A Z h w f
/-- the three participants' numbers -/
theorem own_pqr (a b : Int32) : ∃ p q r : Nat, p < 3 ∧ q < 3 ∧ r < 3 ∧ p ≠ q ∧ p ≠ r ∧ q ≠ r ∧ ((a &&& (2147483647 : Int32)) % (3 : Int32)) = Int32.ofNat p ∧ (((Int32.ofNat p + (1 : Int32)) + (b &&& (1 : Int32))) % (3 : Int32)) = Int32.ofNat q ∧ (((3 : Int32) - Int32.ofNat p) - Int32.ofNat q) = Int32.ofNat r := by
  have h1 := c_mask a (2147483647 : Int32) 31 (by decide) (by decide)
  have h2 := (c_irem (a &&& (2147483647 : Int32)) (3 : Int32) 3 (by decide)).1 (by omega)
  have hp : ∃ p : Nat, p < 3 ∧ ((a &&& (2147483647 : Int32)) % (3 : Int32)) = Int32.ofNat p := by
    have q : ((a &&& (2147483647 : Int32)) % (3 : Int32)).toInt = 0 ∨ ((a &&& (2147483647 : Int32)) % (3 : Int32)).toInt = 1 ∨ ((a &&& (2147483647 : Int32)) % (3 : Int32)).toInt = 2 := by omega
    rcases q with q | q | q
    · exact ⟨0, by omega, Int32.toInt_inj.mp (by rw [q]; decide)⟩
    · exact ⟨1, by omega, Int32.toInt_inj.mp (by rw [q]; decide)⟩
    · exact ⟨2, by omega, Int32.toInt_inj.mp (by rw [q]; decide)⟩
  obtain ⟨p, hp3, hp⟩ := hp
  have hq : b &&& (1 : Int32) = 0 ∨ b &&& (1 : Int32) = 1 := and_one b
  have h3 : p = 0 ∨ p = 1 ∨ p = 2 := by omega
  rcases hq with e | e <;> rcases h3 with rfl | rfl | rfl
  · exact ⟨0, 1, 2, by decide, by decide, by decide, by decide, by decide, by decide, hp, by rw [e]; decide, by decide⟩
  · exact ⟨1, 2, 0, by decide, by decide, by decide, by decide, by decide, by decide, hp, by rw [e]; decide, by decide⟩
  · exact ⟨2, 0, 1, by decide, by decide, by decide, by decide, by decide, by decide, hp, by rw [e]; decide, by decide⟩
  · exact ⟨0, 2, 1, by decide, by decide, by decide, by decide, by decide, by decide, hp, by rw [e]; decide, by decide⟩
  · exact ⟨1, 0, 2, by decide, by decide, by decide, by decide, by decide, by decide, hp, by rw [e]; decide, by decide⟩
  · exact ⟨2, 1, 0, by decide, by decide, by decide, by decide, by decide, by decide, hp, by rw [e]; decide, by decide⟩
/-- the array behind set -/
def own_set (f : Nat → Int64) (n : Nat) (c0 c1 c2 c3 c4 c5 : Int64) : Nat → Int64 := own_upd (own_upd (own_upd (own_upd (own_upd (own_upd f (7 * n + 0) c0) (7 * n + 1) c1) (7 * n + 2) c2) (7 * n + 3) c3) (7 * n + 4) c4) (7 * n + 5) c5
/-- the array behind set, the two setProfitSharing and addProfitSharingCent -/
def own_F (p q : Nat) (c0 c1 c2 c3 c4 c5 s o : Int64) : Nat → Int64 := own_upd (own_upd (own_upd (own_set (fun _ => 0) p c0 c1 c2 c3 c4 c5) (7 * p + 6) s) (7 * q + 6) o) (7 * p + 6) (s + 1)
theorem own_hit {f : Nat → Int64} {k j : Nat} {v : Int64} (h : j = k) : own_upd f k v j = v := if_pos h
theorem own_miss {f : Nat → Int64} {k j : Nat} {v w : Int64} (h : j ≠ k) (r : f j = w) : own_upd f k v j = w := (if_neg h).trans r
theorem own_Fx {p q : Nat} (c0 c1 c2 c3 c4 c5 s o : Int64) : (own_F p q c0 c1 c2 c3 c4 c5 s o (7 * p + 0) = c0 ∧ own_F p q c0 c1 c2 c3 c4 c5 s o (7 * p + 1) = c1 ∧ own_F p q c0 c1 c2 c3 c4 c5 s o (7 * p + 2) = c2 ∧ own_F p q c0 c1 c2 c3 c4 c5 s o (7 * p + 3) = c3) ∧ own_F p q c0 c1 c2 c3 c4 c5 s o (7 * p + 4) = c4 ∧ own_F p q c0 c1 c2 c3 c4 c5 s o (7 * p + 5) = c5 ∧ own_F p q c0 c1 c2 c3 c4 c5 s o (7 * p + 6) = s + 1 := by
  refine ⟨⟨?_, ?_, ?_, ?_⟩, ?_, ?_, own_hit rfl⟩
  · exact own_miss (by omega) (own_miss (by omega) (own_miss (by omega) (own_miss (by omega) (own_miss (by omega) (own_miss (by omega) (own_miss (by omega) (own_miss (by omega) (own_hit rfl))))))))
  · exact own_miss (by omega) (own_miss (by omega) (own_miss (by omega) (own_miss (by omega) (own_miss (by omega) (own_miss (by omega) (own_miss (by omega) (own_hit rfl)))))))
  · exact own_miss (by omega) (own_miss (by omega) (own_miss (by omega) (own_miss (by omega) (own_miss (by omega) (own_miss (by omega) (own_hit rfl))))))
  · exact own_miss (by omega) (own_miss (by omega) (own_miss (by omega) (own_miss (by omega) (own_miss (by omega) (own_hit rfl)))))
  · exact own_miss (by omega) (own_miss (by omega) (own_miss (by omega) (own_miss (by omega) (own_hit rfl))))
  · exact own_miss (by omega) (own_miss (by omega) (own_miss (by omega) (own_hit rfl)))
theorem own_F0 {p q n : Nat} (c0 c1 c2 c3 c4 c5 s o : Int64) (hn : n ≠ p) {k : Nat} (hk : k < 6) : own_F p q c0 c1 c2 c3 c4 c5 s o (7 * n + k) = 0 :=
  own_miss (by omega) (own_miss (by omega) (own_miss (by omega) (own_miss (by omega) (own_miss (by omega) (own_miss (by omega) (own_miss (by omega) (own_miss (by omega) (own_miss (by omega) rfl))))))))
theorem own_Fq {p q : Nat} (c0 c1 c2 c3 c4 c5 s o : Int64) (hn : q ≠ p) : own_F p q c0 c1 c2 c3 c4 c5 s o (7 * q + 6) = o := own_miss (by omega) (own_hit rfl)
theorem own_Fr {p q n : Nat} (c0 c1 c2 c3 c4 c5 s o : Int64) (hn : n ≠ p) (hq : n ≠ q) : own_F p q c0 c1 c2 c3 c4 c5 s o (7 * n + 6) = 0 :=
  own_miss (by omega) (own_miss (by omega) (own_miss (by omega) (own_miss (by omega) (own_miss (by omega) (own_miss (by omega) (own_miss (by omega) (own_miss (by omega) (own_miss (by omega) rfl))))))))

theorem d3_0 : decode jdk_29_method_28_code 0 = .ok (.iload_n 0, 1) := by decide +kernel
theorem d3_1 : decode jdk_29_method_28_code 1 = .ok (.i2l, 1) := by decide +kernel
theorem d3_2 : decode jdk_29_method_28_code 2 = .ok (.iload_n 1, 1) := by decide +kernel
theorem d3_3 : decode jdk_29_method_28_code 3 = .ok (.i2l, 1) := by decide +kernel
theorem d3_4 : decode jdk_29_method_28_code 4 = .ok (.lmul, 1) := by decide +kernel
theorem d3_5 : decode jdk_29_method_28_code 5 = .ok (.lstore_n 2, 1) := by decide +kernel
theorem d3_6 : decode jdk_29_method_28_code 6 = .ok (.lload_n 2, 1) := by decide +kernel
theorem d3_7 : decode jdk_29_method_28_code 7 = .ok (.l2i, 1) := by decide +kernel
theorem d3_8 : decode jdk_29_method_28_code 8 = .ok (.i2l, 1) := by decide +kernel
theorem d3_9 : decode jdk_29_method_28_code 9 = .ok (.lload_n 2, 1) := by decide +kernel
theorem d3_10 : decode jdk_29_method_28_code 10 = .ok (.lcmp, 1) := by decide +kernel
theorem d3_11 : decode jdk_29_method_28_code 11 = .ok (.ifCond .eq 13, 3) := by decide +kernel
theorem d3_24 : decode jdk_29_method_28_code 24 = .ok (.lload_n 2, 1) := by decide +kernel
theorem d3_25 : decode jdk_29_method_28_code 25 = .ok (.l2i, 1) := by decide +kernel
theorem d3_26 : decode jdk_29_method_28_code 26 = .ok (.ireturn, 1) := by decide +kernel
theorem ef_3 (m : MethodId) (x0 : Int32) (x1 : Int32) : entryFrame m #[(.int x0), (.int x1)] 4 = mkF m 0 #[.val (.int x0), .val (.int x1), .unset, .unset] [] := by first | (simp [entryFrame, mkF, argsToLocals, Value.category]; done) | rfl
set_option maxRecDepth 65536 in
set_option maxHeartbeats 40000000 in
theorem rm3 (l : Launch) (Z : State) (a0 : Array Value) (hw : ∀ d ∈ tables_1, d.before a0 Z = true) (ws : List Jvm.Cond) (p1 : Int32) (p2 : Int32) (r : Int32) (hr : r = (((p1.toInt64) * (p2.toInt64)).toInt32)) (h0 : Heap) (n0 : Nat) (Z0 : n0 ≤ h0.size) (hc11 : (lcmpW ((((p1.toInt64) * (p2.toInt64)).toInt32).toInt64) ((p1.toInt64) * (p2.toInt64))) = (0 : Int32)) :
    MetFree l (⟨"java/lang/Math", "multiplyExact", "(II)I"⟩ : MethodName) (head1 (Jvm.Cond.code (⟨"java/lang/Math", "multiplyExact", "(II)I"⟩ : MethodName) jdk_29_method_28_code 4 (some .int) :: ws) ({ frames := 0, cells := 0, slots := 0, locals := 0 } : Room)) (fun a U => a = #[(.int p1), (.int p2)] ∧ Z.Warmed39 U.vm ∧ U.heap = h0) (fun _ _ _ _ _ => True) (fun _ U o U' => ∃ v L, o = .returned v ∧ QR (.int r) h0 n0 v U'.heap L ∧ FrameEnd U o U' L ({ frames := 0, cells := 0, slots := 0, locals := 0 } : Room).cells ({ frames := 0, cells := 0, slots := 0, locals := 0 } : Room).slots) := by
  subst hr
  refine MetFree.of_bodySF (Jvm.Free.JP.mathPlain rfl (by decide +kernel)) hisR ?_
  intro p e s m args below meth c s₁ Bd hml0 hP hK
  obtain ⟨rfl, hZ, hh⟩ := hP
  have hx := Bd.exec
  have hby := Bd.bytes
  have hml : c.maxLocals = 4 := hml0
  have hown : s.vm.findClass "java/lang/Math" = some m.cls := findClass_of_methodNamed Bd.named
  have hnm := (name_of_methodNamed Bd.named Bd.method).1
  have X0 : Stand p l e ({ frames := 0, cells := 0, slots := 0, locals := 0 } : Room) s m #[(.int p1), (.int p2)] below meth c s₁ [] 0 0 := Stand.of_body Bd
  have e0 : s₁.heap = h0 := by rw [← hh, Bd.state]; rfl
  have N0 := Fr.nil n0
  have pre0 : ∀ t, Steps p.tables e below (s₁.setTop (mkF m 0 #[.val (.int p1), .val (.int p2), .unset, .unset] [])) t → Steps p.tables e below (s₁.setTop (entryFrame m #[(.int p1), (.int p2)] 4)) t := fun t k => castTop (ef_3 m p1 p2) k

  obtain ⟨fs, hr, hrun, hended, hW, hsame⟩ := X0.leave (v := some (.int (((p1.toInt64) * (p2.toInt64)).toInt32))) (fun h => by rw [Bd.returns] at h; cases h)
  refine ⟨_, _, pre0 _ ?_, hrun, hended, _, _, rfl, ?_, ⟨_, rfl⟩, hW, hsame.mono (by decide) (by decide)⟩
  · show Steps p.tables e below (s₁.setTop (mkF m 0 #[.val (.int p1), .val (.int p2), .unset, .unset] [])) _
    refine XS.iloadN X0.here hx rfl (hb hby d3_0) rfl ?_
    show Steps p.tables e below (s₁.setTop (mkF m 1 #[.val (.int p1), .val (.int p2), .unset, .unset] [(.int p1)])) _
    refine XS.i2l X0.here hx rfl (hb hby d3_1) rfl ?_
    show Steps p.tables e below (s₁.setTop (mkF m 2 #[.val (.int p1), .val (.int p2), .unset, .unset] [(.long (p1.toInt64))])) _
    refine XS.iloadN X0.here hx rfl (hb hby d3_2) rfl ?_
    show Steps p.tables e below (s₁.setTop (mkF m 3 #[.val (.int p1), .val (.int p2), .unset, .unset] [(.int p2), (.long (p1.toInt64))])) _
    refine XS.i2l X0.here hx rfl (hb hby d3_3) rfl ?_
    show Steps p.tables e below (s₁.setTop (mkF m 4 #[.val (.int p1), .val (.int p2), .unset, .unset] [(.long (p2.toInt64)), (.long (p1.toInt64))])) _
    refine XS.lmul X0.here hx rfl (hb hby d3_4) rfl ?_
    show Steps p.tables e below (s₁.setTop (mkF m 5 #[.val (.int p1), .val (.int p2), .unset, .unset] [(.long ((p1.toInt64) * (p2.toInt64)))])) _
    refine XS.lstoreN X0.here hx rfl (hb hby d3_5) rfl (l' := #[.val (.int p1), .val (.int p2), .val (.long ((p1.toInt64) * (p2.toInt64))), .second]) rfl ?_
    show Steps p.tables e below (s₁.setTop (mkF m 6 #[.val (.int p1), .val (.int p2), .val (.long ((p1.toInt64) * (p2.toInt64))), .second] [])) _
    refine XS.lloadN X0.here hx rfl (hb hby d3_6) rfl ?_
    show Steps p.tables e below (s₁.setTop (mkF m 7 #[.val (.int p1), .val (.int p2), .val (.long ((p1.toInt64) * (p2.toInt64))), .second] [(.long ((p1.toInt64) * (p2.toInt64)))])) _
    refine XS.l2i X0.here hx rfl (hb hby d3_7) rfl ?_
    show Steps p.tables e below (s₁.setTop (mkF m 8 #[.val (.int p1), .val (.int p2), .val (.long ((p1.toInt64) * (p2.toInt64))), .second] [(.int (((p1.toInt64) * (p2.toInt64)).toInt32))])) _
    refine XS.i2l X0.here hx rfl (hb hby d3_8) rfl ?_
    show Steps p.tables e below (s₁.setTop (mkF m 9 #[.val (.int p1), .val (.int p2), .val (.long ((p1.toInt64) * (p2.toInt64))), .second] [(.long ((((p1.toInt64) * (p2.toInt64)).toInt32).toInt64))])) _
    refine XS.lloadN X0.here hx rfl (hb hby d3_9) rfl ?_
    show Steps p.tables e below (s₁.setTop (mkF m 10 #[.val (.int p1), .val (.int p2), .val (.long ((p1.toInt64) * (p2.toInt64))), .second] [(.long ((p1.toInt64) * (p2.toInt64))), (.long ((((p1.toInt64) * (p2.toInt64)).toInt32).toInt64))])) _
    refine XS.lcmp X0.here hx rfl (hb hby d3_10) rfl ?_
    show Steps p.tables e below (s₁.setTop (mkF m 11 #[.val (.int p1), .val (.int p2), .val (.long ((p1.toInt64) * (p2.toInt64))), .second] [(.int (lcmpW ((((p1.toInt64) * (p2.toInt64)).toInt32).toInt64) ((p1.toInt64) * (p2.toInt64))))])) _
    refine XS.ifYes X0.here hx rfl (pc0 := 11) (pc' := 24) rfl (hb hby d3_11) rfl ((if0 _ _).trans (teq hc11).1) (by decide) (by decide) ?_
    show Steps p.tables e below (s₁.setTop (mkF m 24 #[.val (.int p1), .val (.int p2), .val (.long ((p1.toInt64) * (p2.toInt64))), .second] [])) _
    refine XS.lloadN X0.here hx rfl (hb hby d3_24) rfl ?_
    show Steps p.tables e below (s₁.setTop (mkF m 25 #[.val (.int p1), .val (.int p2), .val (.long ((p1.toInt64) * (p2.toInt64))), .second] [(.long ((p1.toInt64) * (p2.toInt64)))])) _
    refine XS.l2i X0.here hx rfl (hb hby d3_25) rfl ?_
    show Steps p.tables e below (s₁.setTop (mkF m 26 #[.val (.int p1), .val (.int p2), .val (.long ((p1.toInt64) * (p2.toInt64))), .second] [(.int (((p1.toInt64) * (p2.toInt64)).toInt32))])) _
    exact retI X0 hx Bd.returns (hb hby d3_26) hr
  · show QR (.int _) h0 n0 _ s₁.heap _
    rw [e0]
    exact ⟨rfl, N0, rfl⟩

theorem d5_0 : decode jdk_30_method_1_code 0 = .ok (.aload_n 0, 1) := by decide +kernel
theorem d5_1 : decode jdk_30_method_1_code 1 = .ok (.invokespecial 1, 3) := by decide +kernel
theorem d5_4 : decode jdk_30_method_1_code 4 = .ok (.return_, 1) := by decide +kernel
theorem pn_5 : plainName "java/lang/Record" = true := by first | (simp [plainName, overriddenIn]; done) | decide +kernel
theorem ef_5 (m : MethodId) (x0 : Addr) : entryFrame m #[(.ref x0)] 1 = mkF m 0 #[.val (.ref x0)] [] := by first | (simp [entryFrame, mkF, argsToLocals, Value.category]; done) | rfl
def Q5 (Z : State) (a1 : Addr) (h0 : Heap) (n0 : Nat) (v : Option Value) (h : Heap) (L : List Loc) : Prop := v = none ∧ Fr n0 L ∧ h = h0
set_option maxRecDepth 65536 in
set_option maxHeartbeats 40000000 in
theorem rm5 (l : Launch) (Z : State) (a0 : Array Value) (hw : ∀ d ∈ tables_1, d.before a0 Z = true) (ws : List Jvm.Cond) (a1 : Addr) (h0 : Heap) (n0 : Nat) (Z0 : n0 ≤ h0.size) :
    MetFree l (⟨"java/lang/Record", "<init>", "()V"⟩ : MethodName) (head1 (Jvm.Cond.code (⟨"java/lang/Record", "<init>", "()V"⟩ : MethodName) jdk_30_method_1_code 1 none :: ws) ({ frames := 1, cells := 0, slots := 0, locals := 12 } : Room)) (fun a U => a = #[(.ref a1)] ∧ Z.Warmed39 U.vm ∧ U.heap = h0) (fun _ _ _ _ _ => True) (fun _ U o U' => ∃ v L, o = .returned v ∧ Q5 Z a1 h0 n0 v U'.heap L ∧ FrameEnd U o U' L ({ frames := 1, cells := 0, slots := 0, locals := 12 } : Room).cells ({ frames := 1, cells := 0, slots := 0, locals := 12 } : Room).slots) := by
  refine MetFree.of_bodySF (plainFor_of_name pn_5) hisR ?_
  intro p e s m args below meth c s₁ Bd hml0 hP hK
  obtain ⟨rfl, hZ, hh⟩ := hP
  have hx := Bd.exec
  have hby := Bd.bytes
  have hml : c.maxLocals = 1 := hml0
  have hown : s.vm.findClass "java/lang/Record" = some m.cls := findClass_of_methodNamed Bd.named
  have hnm := (name_of_methodNamed Bd.named Bd.method).1
  have X0 : Stand p l e ({ frames := 1, cells := 0, slots := 0, locals := 12 } : Room) s m #[(.ref a1)] below meth c s₁ [] 0 0 := Stand.of_body Bd
  have e0 : s₁.heap = h0 := by rw [← hh, Bd.state]; rfl
  have N0 := Fr.nil n0
  have pre0 : ∀ t, Steps p.tables e below (s₁.setTop (mkF m 0 #[.val (.ref a1)] [])) t → Steps p.tables e below (s₁.setTop (entryFrame m #[(.ref a1)] 1)) t := fun t k => castTop (ef_5 m a1) k
  obtain ⟨T2, X2, e2, st2⟩ := initO X0 hx hZ hown (hw _ (List.mem_of_getElem? (i := 36) rfl)) (hw _ (List.mem_of_getElem? (i := 9) rfl)) (hw _ (List.mem_of_getElem? (i := 10) rfl)) e0 (g := (mkF m 1 #[.val (.ref a1)] [(.ref a1)])) rfl (by rw [hml]; rfl) rfl (hb hby d5_1) (by decide) (W := 0) (by show 2 * 0 + _ ≤ _; exact Nat.le_of_eq rfl) (by decide)
  obtain ⟨fs, hr, hrun, hended, hW, hsame⟩ := X2.leave (v := none) (fun _ => rfl)
  refine ⟨_, _, pre0 _ ?_, hrun, hended, _, _, rfl, ?_, ⟨_, rfl⟩, hW, hsame.mono (by decide) (by decide)⟩
  · show Steps p.tables e below (s₁.setTop (mkF m 0 #[.val (.ref a1)] [])) _
    refine XS.aloadN X0.here hx rfl (hb hby d5_0) rfl rfl ?_
    show Steps p.tables e below (s₁.setTop (mkF m 1 #[.val (.ref a1)] [(.ref a1)])) _
    refine st2 _ ?_
    show Steps p.tables e below (T2.setTop (mkF m 4 #[.val (.ref a1)] [])) _
    exact X2.returnOut hx Bd.returns (hb hby d5_4) hr
  · show Q5 Z a1 h0 n0 _ T2.heap _
    rw [e2]
    exact ⟨rfl, N0, rfl⟩

theorem d4_0 : decode prog_92_method_1_code 0 = .ok (.aload_n 0, 1) := by decide +kernel
theorem d4_1 : decode prog_92_method_1_code 1 = .ok (.invokespecial 1, 3) := by decide +kernel
theorem d4_4 : decode prog_92_method_1_code 4 = .ok (.aload_n 0, 1) := by decide +kernel
theorem d4_5 : decode prog_92_method_1_code 5 = .ok (.lload_n 1, 1) := by decide +kernel
theorem d4_6 : decode prog_92_method_1_code 6 = .ok (.putfield 7, 3) := by decide +kernel
theorem d4_9 : decode prog_92_method_1_code 9 = .ok (.aload_n 0, 1) := by decide +kernel
theorem d4_10 : decode prog_92_method_1_code 10 = .ok (.lload_n 3, 1) := by decide +kernel
theorem d4_11 : decode prog_92_method_1_code 11 = .ok (.putfield 13, 3) := by decide +kernel
theorem d4_14 : decode prog_92_method_1_code 14 = .ok (.aload_n 0, 1) := by decide +kernel
theorem d4_15 : decode prog_92_method_1_code 15 = .ok (.lload 5, 2) := by decide +kernel
theorem d4_17 : decode prog_92_method_1_code 17 = .ok (.putfield 16, 3) := by decide +kernel
theorem d4_20 : decode prog_92_method_1_code 20 = .ok (.aload_n 0, 1) := by decide +kernel
theorem d4_21 : decode prog_92_method_1_code 21 = .ok (.lload 7, 2) := by decide +kernel
theorem d4_23 : decode prog_92_method_1_code 23 = .ok (.putfield 19, 3) := by decide +kernel
theorem d4_26 : decode prog_92_method_1_code 26 = .ok (.aload_n 0, 1) := by decide +kernel
theorem d4_27 : decode prog_92_method_1_code 27 = .ok (.lload 9, 2) := by decide +kernel
theorem d4_29 : decode prog_92_method_1_code 29 = .ok (.putfield 22, 3) := by decide +kernel
theorem d4_32 : decode prog_92_method_1_code 32 = .ok (.aload_n 0, 1) := by decide +kernel
theorem d4_33 : decode prog_92_method_1_code 33 = .ok (.lload 11, 2) := by decide +kernel
theorem d4_35 : decode prog_92_method_1_code 35 = .ok (.putfield 25, 3) := by decide +kernel
theorem d4_38 : decode prog_92_method_1_code 38 = .ok (.aload_n 0, 1) := by decide +kernel
theorem d4_39 : decode prog_92_method_1_code 39 = .ok (.lload 13, 2) := by decide +kernel
theorem d4_41 : decode prog_92_method_1_code 41 = .ok (.putfield 28, 3) := by decide +kernel
theorem d4_44 : decode prog_92_method_1_code 44 = .ok (.return_, 1) := by decide +kernel
theorem pn_4 : plainName "com/example/vestry/vestry/rules/Allocated" = true := by first | (simp [plainName, overriddenIn]; done) | decide +kernel
theorem pd_4_1 : parseMethodDescriptor "()V" = some ⟨[], none⟩ := by decide +kernel
theorem ef_4 (m : MethodId) (x0 : Addr) (x1 : Int64) (x2 : Int64) (x3 : Int64) (x4 : Int64) (x5 : Int64) (x6 : Int64) (x7 : Int64) : entryFrame m #[(.ref x0), (.long x1), (.long x2), (.long x3), (.long x4), (.long x5), (.long x6), (.long x7)] 15 = mkF m 0 #[.val (.ref x0), .val (.long x1), .second, .val (.long x2), .second, .val (.long x3), .second, .val (.long x4), .second, .val (.long x5), .second, .val (.long x6), .second, .val (.long x7), .second] [] := by first | (simp [entryFrame, mkF, argsToLocals, Value.category]; done) | rfl
def Q4 (Z : State) (a1 : Addr) (q2 : Int64) (q3 : Int64) (q4 : Int64) (q5 : Int64) (q6 : Int64) (q7 : Int64) (q8 : Int64) (u_compensation_a1 : Value) (u_cappedCompensation_a1 : Value) (u_deferrals_a1 : Value) (u_catchUp_a1 : Value) (u_excessDeferrals_a1 : Value) (u_match_a1 : Value) (u_profitSharing_a1 : Value) (h0 : Heap) (n0 : Nat) (v : Option Value) (h : Heap) (L : List Loc) : Prop := v = none ∧ Fr n0 L ∧ Keep h0 h [a1] ∧ Exa Z h a1 "com/example/vestry/vestry/rules/Allocated" ∧ Fld Z h a1 "com/example/vestry/vestry/rules/Allocated" "compensation" "J" (.long q2) ∧ Fld Z h a1 "com/example/vestry/vestry/rules/Allocated" "cappedCompensation" "J" (.long q3) ∧ Fld Z h a1 "com/example/vestry/vestry/rules/Allocated" "deferrals" "J" (.long q4) ∧ Fld Z h a1 "com/example/vestry/vestry/rules/Allocated" "catchUp" "J" (.long q5) ∧ Fld Z h a1 "com/example/vestry/vestry/rules/Allocated" "excessDeferrals" "J" (.long q6) ∧ Fld Z h a1 "com/example/vestry/vestry/rules/Allocated" "match" "J" (.long q7) ∧ Fld Z h a1 "com/example/vestry/vestry/rules/Allocated" "profitSharing" "J" (.long q8)
set_option maxRecDepth 65536 in
set_option maxHeartbeats 40000000 in
theorem rm4 (l : Launch) (Z : State) (a0 : Array Value) (hw : ∀ d ∈ tables_1, d.before a0 Z = true) (ws : List Jvm.Cond) (a1 : Addr) (q2 : Int64) (q3 : Int64) (q4 : Int64) (q5 : Int64) (q6 : Int64) (q7 : Int64) (q8 : Int64) (u_compensation_a1 : Value) (u_cappedCompensation_a1 : Value) (u_deferrals_a1 : Value) (u_catchUp_a1 : Value) (u_excessDeferrals_a1 : Value) (u_match_a1 : Value) (u_profitSharing_a1 : Value) (h0 : Heap) (n0 : Nat) (Z0 : n0 ≤ h0.size) (E_a1 : Exa Z h0 a1 "com/example/vestry/vestry/rules/Allocated") (F_compensation_a1 : Fld Z h0 a1 "com/example/vestry/vestry/rules/Allocated" "compensation" "J" u_compensation_a1) (g_a1 : n0 ≤ a1) (F_cappedCompensation_a1 : Fld Z h0 a1 "com/example/vestry/vestry/rules/Allocated" "cappedCompensation" "J" u_cappedCompensation_a1) (F_deferrals_a1 : Fld Z h0 a1 "com/example/vestry/vestry/rules/Allocated" "deferrals" "J" u_deferrals_a1) (F_catchUp_a1 : Fld Z h0 a1 "com/example/vestry/vestry/rules/Allocated" "catchUp" "J" u_catchUp_a1) (F_excessDeferrals_a1 : Fld Z h0 a1 "com/example/vestry/vestry/rules/Allocated" "excessDeferrals" "J" u_excessDeferrals_a1) (F_match_a1 : Fld Z h0 a1 "com/example/vestry/vestry/rules/Allocated" "match" "J" u_match_a1) (F_profitSharing_a1 : Fld Z h0 a1 "com/example/vestry/vestry/rules/Allocated" "profitSharing" "J" u_profitSharing_a1) :
    MetFree l (⟨"com/example/vestry/vestry/rules/Allocated", "<init>", "(JJJJJJJ)V"⟩ : MethodName) (head1 (Jvm.Cond.code (⟨"com/example/vestry/vestry/rules/Allocated", "<init>", "(JJJJJJJ)V"⟩ : MethodName) prog_92_method_1_code 15 none :: ws) ({ frames := 2, cells := 0, slots := 0, locals := 24 } : Room)) (fun a U => a = #[(.ref a1), (.long q2), (.long q3), (.long q4), (.long q5), (.long q6), (.long q7), (.long q8)] ∧ Z.Warmed39 U.vm ∧ U.heap = h0) (fun _ _ _ _ _ => True) (fun _ U o U' => ∃ v L, o = .returned v ∧ Q4 Z a1 q2 q3 q4 q5 q6 q7 q8 u_compensation_a1 u_cappedCompensation_a1 u_deferrals_a1 u_catchUp_a1 u_excessDeferrals_a1 u_match_a1 u_profitSharing_a1 h0 n0 v U'.heap L ∧ FrameEnd U o U' L ({ frames := 2, cells := 0, slots := 0, locals := 24 } : Room).cells ({ frames := 2, cells := 0, slots := 0, locals := 24 } : Room).slots) := by
  refine MetFree.of_bodySF (plainFor_of_name pn_4) hisR ?_
  intro p e s m args below meth c s₁ Bd hml0 hP hK
  obtain ⟨rfl, hZ, hh⟩ := hP
  have hx := Bd.exec
  have hby := Bd.bytes
  have hml : c.maxLocals = 15 := hml0
  have hown : s.vm.findClass "com/example/vestry/vestry/rules/Allocated" = some m.cls := findClass_of_methodNamed Bd.named
  have hnm := (name_of_methodNamed Bd.named Bd.method).1
  have X0 : Stand p l e ({ frames := 2, cells := 0, slots := 0, locals := 24 } : Room) s m #[(.ref a1), (.long q2), (.long q3), (.long q4), (.long q5), (.long q6), (.long q7), (.long q8)] below meth c s₁ [] 0 0 := Stand.of_body Bd
  have e0 : s₁.heap = h0 := by rw [← hh, Bd.state]; rfl
  have N0 := Fr.nil n0
  have pre0 : ∀ t, Steps p.tables e below (s₁.setTop (mkF m 0 #[.val (.ref a1), .val (.long q2), .second, .val (.long q3), .second, .val (.long q4), .second, .val (.long q5), .second, .val (.long q6), .second, .val (.long q7), .second, .val (.long q8), .second] [])) t → Steps p.tables e below (s₁.setTop (entryFrame m #[(.ref a1), (.long q2), (.long q3), (.long q4), (.long q5), (.long q6), (.long q7), (.long q8)] 15)) t := fun t k => castTop (ef_4 m a1 q2 q3 q4 q5 q6 q7 q8) k
  obtain ⟨_, _, ⟨T9, L9, k9, n9⟩, -, X9, ⟨Lc9, hQ9, l9, y9, z9⟩, st9⟩ := X0.specialBack hx (y := (⟨"java/lang/Record", "<init>", "()V"⟩ : MethodName)) rfl hown (mvT hZ (hw _ (List.mem_of_getElem? (i := 31) rfl))) (mvT hZ (hw _ (List.mem_of_getElem? (i := 32) rfl))) (mvT hZ (hw _ (List.mem_of_getElem? (i := 35) rfl))) (by decide) (backOf (W := 0) (rm5 l Z a0 hw [] a1 h0 n0 Z0) hZ (hw _ (List.mem_of_getElem? (i := 35) rfl)) (hw _ (List.mem_of_getElem? (i := 34) rfl)) (by decide) (by decide)) (g := (mkF m 1 #[.val (.ref a1), .val (.long q2), .second, .val (.long q3), .second, .val (.long q4), .second, .val (.long q5), .second, .val (.long q6), .second, .val (.long q7), .second, .val (.long q8), .second] [(.ref a1)])) rfl (by rw [hml]; rfl) (Steps.refl _) (a := a1) (argsL := []) (rest := []) (lenOf pd_4_1 rfl) rfl (by show 2 * 0 + _ ≤ _; exact Nat.le_of_eq rfl) (hb hby d4_1) (fun _ _ => ⟨rfl, e0, (by decide : 0 + 0 ≤ _), (by decide : 0 + 0 ≤ _)⟩)
  dsimp only [Pt.U, Pt.locs, Pt.cells, Pt.slots] at X9 l9 y9 z9 st9 hQ9
  subst l9 y9 z9
  obtain ⟨rfl, N9q, e9⟩ := hQ9
  have N9 := Fr.app N0 N9q
  obtain ⟨T10, h10, X10, e10, W10, st10⟩ := putF X9 hx hZ hown (host := "") (Or.inl (hw _ (List.mem_of_getElem? (i := 37) rfl))) Via.refl e9 F_compensation_a1 E_a1 (Or.inr ⟨(hw _ (List.mem_of_getElem? (i := 38) rfl)), rfl, hnm⟩) (hw _ (List.mem_of_getElem? (i := 21) rfl)) (ty := .long) (by decide) rfl rfl (g := (mkF m 6 #[.val (.ref a1), .val (.long q2), .second, .val (.long q3), .second, .val (.long q4), .second, .val (.long q5), .second, .val (.long q6), .second, .val (.long q7), .second, .val (.long q8), .second] [(.long q2), (.ref a1)])) rfl rfl (hb hby d4_6)
  have Fw10 := F_compensation_a1.same W10
  have K10 : Keep h0 h10 [a1] := (Keep.refl h0 [a1]).wr W10 (Or.inl (List.mem_of_getElem? (i := 0) rfl))
  have N10 := Fr.snoc X10 N9 g_a1
  obtain ⟨T11, h11, X11, e11, W11, st11⟩ := putF X10 hx hZ hown (host := "") (Or.inl (hw _ (List.mem_of_getElem? (i := 39) rfl))) Via.refl e10 (F_cappedCompensation_a1.other W10 (Or.inr (slot_ne (Or.inr (hw _ (List.mem_of_getElem? (i := 40) rfl))) (Or.inr (hw _ (List.mem_of_getElem? (i := 38) rfl))) (by decide) (t := .long) (t' := .long) (by decide) (by decide)))) (E_a1.wr W10) (Or.inr ⟨(hw _ (List.mem_of_getElem? (i := 40) rfl)), rfl, hnm⟩) (hw _ (List.mem_of_getElem? (i := 21) rfl)) (ty := .long) (by decide) rfl rfl (g := (mkF m 11 #[.val (.ref a1), .val (.long q2), .second, .val (.long q3), .second, .val (.long q4), .second, .val (.long q5), .second, .val (.long q6), .second, .val (.long q7), .second, .val (.long q8), .second] [(.long q3), (.ref a1)])) rfl rfl (hb hby d4_11)
  have Fw11 := (F_cappedCompensation_a1.other W10 (Or.inr (slot_ne (Or.inr (hw _ (List.mem_of_getElem? (i := 40) rfl))) (Or.inr (hw _ (List.mem_of_getElem? (i := 38) rfl))) (by decide) (t := .long) (t' := .long) (by decide) (by decide)))).same W11
  have K11 : Keep h0 h11 [a1] := K10.wr W11 (Or.inl (List.mem_of_getElem? (i := 0) rfl))
  have N11 := Fr.snoc X11 N10 g_a1
  obtain ⟨T12, h12, X12, e12, W12, st12⟩ := putF X11 hx hZ hown (host := "") (Or.inl (hw _ (List.mem_of_getElem? (i := 41) rfl))) Via.refl e11 ((F_deferrals_a1.other W10 (Or.inr (slot_ne (Or.inr (hw _ (List.mem_of_getElem? (i := 42) rfl))) (Or.inr (hw _ (List.mem_of_getElem? (i := 38) rfl))) (by decide) (t := .long) (t' := .long) (by decide) (by decide)))).other W11 (Or.inr (slot_ne (Or.inr (hw _ (List.mem_of_getElem? (i := 42) rfl))) (Or.inr (hw _ (List.mem_of_getElem? (i := 40) rfl))) (by decide) (t := .long) (t' := .long) (by decide) (by decide)))) ((E_a1.wr W10).wr W11) (Or.inr ⟨(hw _ (List.mem_of_getElem? (i := 42) rfl)), rfl, hnm⟩) (hw _ (List.mem_of_getElem? (i := 21) rfl)) (ty := .long) (by decide) rfl rfl (g := (mkF m 17 #[.val (.ref a1), .val (.long q2), .second, .val (.long q3), .second, .val (.long q4), .second, .val (.long q5), .second, .val (.long q6), .second, .val (.long q7), .second, .val (.long q8), .second] [(.long q4), (.ref a1)])) rfl rfl (hb hby d4_17)
  have Fw12 := ((F_deferrals_a1.other W10 (Or.inr (slot_ne (Or.inr (hw _ (List.mem_of_getElem? (i := 42) rfl))) (Or.inr (hw _ (List.mem_of_getElem? (i := 38) rfl))) (by decide) (t := .long) (t' := .long) (by decide) (by decide)))).other W11 (Or.inr (slot_ne (Or.inr (hw _ (List.mem_of_getElem? (i := 42) rfl))) (Or.inr (hw _ (List.mem_of_getElem? (i := 40) rfl))) (by decide) (t := .long) (t' := .long) (by decide) (by decide)))).same W12
  have K12 : Keep h0 h12 [a1] := K11.wr W12 (Or.inl (List.mem_of_getElem? (i := 0) rfl))
  have N12 := Fr.snoc X12 N11 g_a1
  obtain ⟨T13, h13, X13, e13, W13, st13⟩ := putF X12 hx hZ hown (host := "") (Or.inl (hw _ (List.mem_of_getElem? (i := 43) rfl))) Via.refl e12 (((F_catchUp_a1.other W10 (Or.inr (slot_ne (Or.inr (hw _ (List.mem_of_getElem? (i := 44) rfl))) (Or.inr (hw _ (List.mem_of_getElem? (i := 38) rfl))) (by decide) (t := .long) (t' := .long) (by decide) (by decide)))).other W11 (Or.inr (slot_ne (Or.inr (hw _ (List.mem_of_getElem? (i := 44) rfl))) (Or.inr (hw _ (List.mem_of_getElem? (i := 40) rfl))) (by decide) (t := .long) (t' := .long) (by decide) (by decide)))).other W12 (Or.inr (slot_ne (Or.inr (hw _ (List.mem_of_getElem? (i := 44) rfl))) (Or.inr (hw _ (List.mem_of_getElem? (i := 42) rfl))) (by decide) (t := .long) (t' := .long) (by decide) (by decide)))) (((E_a1.wr W10).wr W11).wr W12) (Or.inr ⟨(hw _ (List.mem_of_getElem? (i := 44) rfl)), rfl, hnm⟩) (hw _ (List.mem_of_getElem? (i := 21) rfl)) (ty := .long) (by decide) rfl rfl (g := (mkF m 23 #[.val (.ref a1), .val (.long q2), .second, .val (.long q3), .second, .val (.long q4), .second, .val (.long q5), .second, .val (.long q6), .second, .val (.long q7), .second, .val (.long q8), .second] [(.long q5), (.ref a1)])) rfl rfl (hb hby d4_23)
  have Fw13 := (((F_catchUp_a1.other W10 (Or.inr (slot_ne (Or.inr (hw _ (List.mem_of_getElem? (i := 44) rfl))) (Or.inr (hw _ (List.mem_of_getElem? (i := 38) rfl))) (by decide) (t := .long) (t' := .long) (by decide) (by decide)))).other W11 (Or.inr (slot_ne (Or.inr (hw _ (List.mem_of_getElem? (i := 44) rfl))) (Or.inr (hw _ (List.mem_of_getElem? (i := 40) rfl))) (by decide) (t := .long) (t' := .long) (by decide) (by decide)))).other W12 (Or.inr (slot_ne (Or.inr (hw _ (List.mem_of_getElem? (i := 44) rfl))) (Or.inr (hw _ (List.mem_of_getElem? (i := 42) rfl))) (by decide) (t := .long) (t' := .long) (by decide) (by decide)))).same W13
  have K13 : Keep h0 h13 [a1] := K12.wr W13 (Or.inl (List.mem_of_getElem? (i := 0) rfl))
  have N13 := Fr.snoc X13 N12 g_a1
  obtain ⟨T14, h14, X14, e14, W14, st14⟩ := putF X13 hx hZ hown (host := "") (Or.inl (hw _ (List.mem_of_getElem? (i := 45) rfl))) Via.refl e13 ((((F_excessDeferrals_a1.other W10 (Or.inr (slot_ne (Or.inr (hw _ (List.mem_of_getElem? (i := 46) rfl))) (Or.inr (hw _ (List.mem_of_getElem? (i := 38) rfl))) (by decide) (t := .long) (t' := .long) (by decide) (by decide)))).other W11 (Or.inr (slot_ne (Or.inr (hw _ (List.mem_of_getElem? (i := 46) rfl))) (Or.inr (hw _ (List.mem_of_getElem? (i := 40) rfl))) (by decide) (t := .long) (t' := .long) (by decide) (by decide)))).other W12 (Or.inr (slot_ne (Or.inr (hw _ (List.mem_of_getElem? (i := 46) rfl))) (Or.inr (hw _ (List.mem_of_getElem? (i := 42) rfl))) (by decide) (t := .long) (t' := .long) (by decide) (by decide)))).other W13 (Or.inr (slot_ne (Or.inr (hw _ (List.mem_of_getElem? (i := 46) rfl))) (Or.inr (hw _ (List.mem_of_getElem? (i := 44) rfl))) (by decide) (t := .long) (t' := .long) (by decide) (by decide)))) ((((E_a1.wr W10).wr W11).wr W12).wr W13) (Or.inr ⟨(hw _ (List.mem_of_getElem? (i := 46) rfl)), rfl, hnm⟩) (hw _ (List.mem_of_getElem? (i := 21) rfl)) (ty := .long) (by decide) rfl rfl (g := (mkF m 29 #[.val (.ref a1), .val (.long q2), .second, .val (.long q3), .second, .val (.long q4), .second, .val (.long q5), .second, .val (.long q6), .second, .val (.long q7), .second, .val (.long q8), .second] [(.long q6), (.ref a1)])) rfl rfl (hb hby d4_29)
  have Fw14 := ((((F_excessDeferrals_a1.other W10 (Or.inr (slot_ne (Or.inr (hw _ (List.mem_of_getElem? (i := 46) rfl))) (Or.inr (hw _ (List.mem_of_getElem? (i := 38) rfl))) (by decide) (t := .long) (t' := .long) (by decide) (by decide)))).other W11 (Or.inr (slot_ne (Or.inr (hw _ (List.mem_of_getElem? (i := 46) rfl))) (Or.inr (hw _ (List.mem_of_getElem? (i := 40) rfl))) (by decide) (t := .long) (t' := .long) (by decide) (by decide)))).other W12 (Or.inr (slot_ne (Or.inr (hw _ (List.mem_of_getElem? (i := 46) rfl))) (Or.inr (hw _ (List.mem_of_getElem? (i := 42) rfl))) (by decide) (t := .long) (t' := .long) (by decide) (by decide)))).other W13 (Or.inr (slot_ne (Or.inr (hw _ (List.mem_of_getElem? (i := 46) rfl))) (Or.inr (hw _ (List.mem_of_getElem? (i := 44) rfl))) (by decide) (t := .long) (t' := .long) (by decide) (by decide)))).same W14
  have K14 : Keep h0 h14 [a1] := K13.wr W14 (Or.inl (List.mem_of_getElem? (i := 0) rfl))
  have N14 := Fr.snoc X14 N13 g_a1
  obtain ⟨T15, h15, X15, e15, W15, st15⟩ := putF X14 hx hZ hown (host := "") (Or.inl (hw _ (List.mem_of_getElem? (i := 47) rfl))) Via.refl e14 (((((F_match_a1.other W10 (Or.inr (slot_ne (Or.inr (hw _ (List.mem_of_getElem? (i := 48) rfl))) (Or.inr (hw _ (List.mem_of_getElem? (i := 38) rfl))) (by decide) (t := .long) (t' := .long) (by decide) (by decide)))).other W11 (Or.inr (slot_ne (Or.inr (hw _ (List.mem_of_getElem? (i := 48) rfl))) (Or.inr (hw _ (List.mem_of_getElem? (i := 40) rfl))) (by decide) (t := .long) (t' := .long) (by decide) (by decide)))).other W12 (Or.inr (slot_ne (Or.inr (hw _ (List.mem_of_getElem? (i := 48) rfl))) (Or.inr (hw _ (List.mem_of_getElem? (i := 42) rfl))) (by decide) (t := .long) (t' := .long) (by decide) (by decide)))).other W13 (Or.inr (slot_ne (Or.inr (hw _ (List.mem_of_getElem? (i := 48) rfl))) (Or.inr (hw _ (List.mem_of_getElem? (i := 44) rfl))) (by decide) (t := .long) (t' := .long) (by decide) (by decide)))).other W14 (Or.inr (slot_ne (Or.inr (hw _ (List.mem_of_getElem? (i := 48) rfl))) (Or.inr (hw _ (List.mem_of_getElem? (i := 46) rfl))) (by decide) (t := .long) (t' := .long) (by decide) (by decide)))) (((((E_a1.wr W10).wr W11).wr W12).wr W13).wr W14) (Or.inr ⟨(hw _ (List.mem_of_getElem? (i := 48) rfl)), rfl, hnm⟩) (hw _ (List.mem_of_getElem? (i := 21) rfl)) (ty := .long) (by decide) rfl rfl (g := (mkF m 35 #[.val (.ref a1), .val (.long q2), .second, .val (.long q3), .second, .val (.long q4), .second, .val (.long q5), .second, .val (.long q6), .second, .val (.long q7), .second, .val (.long q8), .second] [(.long q7), (.ref a1)])) rfl rfl (hb hby d4_35)
  have Fw15 := (((((F_match_a1.other W10 (Or.inr (slot_ne (Or.inr (hw _ (List.mem_of_getElem? (i := 48) rfl))) (Or.inr (hw _ (List.mem_of_getElem? (i := 38) rfl))) (by decide) (t := .long) (t' := .long) (by decide) (by decide)))).other W11 (Or.inr (slot_ne (Or.inr (hw _ (List.mem_of_getElem? (i := 48) rfl))) (Or.inr (hw _ (List.mem_of_getElem? (i := 40) rfl))) (by decide) (t := .long) (t' := .long) (by decide) (by decide)))).other W12 (Or.inr (slot_ne (Or.inr (hw _ (List.mem_of_getElem? (i := 48) rfl))) (Or.inr (hw _ (List.mem_of_getElem? (i := 42) rfl))) (by decide) (t := .long) (t' := .long) (by decide) (by decide)))).other W13 (Or.inr (slot_ne (Or.inr (hw _ (List.mem_of_getElem? (i := 48) rfl))) (Or.inr (hw _ (List.mem_of_getElem? (i := 44) rfl))) (by decide) (t := .long) (t' := .long) (by decide) (by decide)))).other W14 (Or.inr (slot_ne (Or.inr (hw _ (List.mem_of_getElem? (i := 48) rfl))) (Or.inr (hw _ (List.mem_of_getElem? (i := 46) rfl))) (by decide) (t := .long) (t' := .long) (by decide) (by decide)))).same W15
  have K15 : Keep h0 h15 [a1] := K14.wr W15 (Or.inl (List.mem_of_getElem? (i := 0) rfl))
  have N15 := Fr.snoc X15 N14 g_a1
  obtain ⟨T16, h16, X16, e16, W16, st16⟩ := putF X15 hx hZ hown (host := "") (Or.inl (hw _ (List.mem_of_getElem? (i := 49) rfl))) Via.refl e15 ((((((F_profitSharing_a1.other W10 (Or.inr (slot_ne (Or.inr (hw _ (List.mem_of_getElem? (i := 50) rfl))) (Or.inr (hw _ (List.mem_of_getElem? (i := 38) rfl))) (by decide) (t := .long) (t' := .long) (by decide) (by decide)))).other W11 (Or.inr (slot_ne (Or.inr (hw _ (List.mem_of_getElem? (i := 50) rfl))) (Or.inr (hw _ (List.mem_of_getElem? (i := 40) rfl))) (by decide) (t := .long) (t' := .long) (by decide) (by decide)))).other W12 (Or.inr (slot_ne (Or.inr (hw _ (List.mem_of_getElem? (i := 50) rfl))) (Or.inr (hw _ (List.mem_of_getElem? (i := 42) rfl))) (by decide) (t := .long) (t' := .long) (by decide) (by decide)))).other W13 (Or.inr (slot_ne (Or.inr (hw _ (List.mem_of_getElem? (i := 50) rfl))) (Or.inr (hw _ (List.mem_of_getElem? (i := 44) rfl))) (by decide) (t := .long) (t' := .long) (by decide) (by decide)))).other W14 (Or.inr (slot_ne (Or.inr (hw _ (List.mem_of_getElem? (i := 50) rfl))) (Or.inr (hw _ (List.mem_of_getElem? (i := 46) rfl))) (by decide) (t := .long) (t' := .long) (by decide) (by decide)))).other W15 (Or.inr (slot_ne (Or.inr (hw _ (List.mem_of_getElem? (i := 50) rfl))) (Or.inr (hw _ (List.mem_of_getElem? (i := 48) rfl))) (by decide) (t := .long) (t' := .long) (by decide) (by decide)))) ((((((E_a1.wr W10).wr W11).wr W12).wr W13).wr W14).wr W15) (Or.inr ⟨(hw _ (List.mem_of_getElem? (i := 50) rfl)), rfl, hnm⟩) (hw _ (List.mem_of_getElem? (i := 21) rfl)) (ty := .long) (by decide) rfl rfl (g := (mkF m 41 #[.val (.ref a1), .val (.long q2), .second, .val (.long q3), .second, .val (.long q4), .second, .val (.long q5), .second, .val (.long q6), .second, .val (.long q7), .second, .val (.long q8), .second] [(.long q8), (.ref a1)])) rfl rfl (hb hby d4_41)
  have Fw16 := ((((((F_profitSharing_a1.other W10 (Or.inr (slot_ne (Or.inr (hw _ (List.mem_of_getElem? (i := 50) rfl))) (Or.inr (hw _ (List.mem_of_getElem? (i := 38) rfl))) (by decide) (t := .long) (t' := .long) (by decide) (by decide)))).other W11 (Or.inr (slot_ne (Or.inr (hw _ (List.mem_of_getElem? (i := 50) rfl))) (Or.inr (hw _ (List.mem_of_getElem? (i := 40) rfl))) (by decide) (t := .long) (t' := .long) (by decide) (by decide)))).other W12 (Or.inr (slot_ne (Or.inr (hw _ (List.mem_of_getElem? (i := 50) rfl))) (Or.inr (hw _ (List.mem_of_getElem? (i := 42) rfl))) (by decide) (t := .long) (t' := .long) (by decide) (by decide)))).other W13 (Or.inr (slot_ne (Or.inr (hw _ (List.mem_of_getElem? (i := 50) rfl))) (Or.inr (hw _ (List.mem_of_getElem? (i := 44) rfl))) (by decide) (t := .long) (t' := .long) (by decide) (by decide)))).other W14 (Or.inr (slot_ne (Or.inr (hw _ (List.mem_of_getElem? (i := 50) rfl))) (Or.inr (hw _ (List.mem_of_getElem? (i := 46) rfl))) (by decide) (t := .long) (t' := .long) (by decide) (by decide)))).other W15 (Or.inr (slot_ne (Or.inr (hw _ (List.mem_of_getElem? (i := 50) rfl))) (Or.inr (hw _ (List.mem_of_getElem? (i := 48) rfl))) (by decide) (t := .long) (t' := .long) (by decide) (by decide)))).same W16
  have K16 : Keep h0 h16 [a1] := K15.wr W16 (Or.inl (List.mem_of_getElem? (i := 0) rfl))
  have N16 := Fr.snoc X16 N15 g_a1
  obtain ⟨fs, hr, hrun, hended, hW, hsame⟩ := X16.leave (v := none) (fun _ => rfl)
  refine ⟨_, _, pre0 _ ?_, hrun, hended, _, _, rfl, ?_, ⟨_, rfl⟩, hW, hsame.mono (by decide) (by decide)⟩
  · show Steps p.tables e below (s₁.setTop (mkF m 0 #[.val (.ref a1), .val (.long q2), .second, .val (.long q3), .second, .val (.long q4), .second, .val (.long q5), .second, .val (.long q6), .second, .val (.long q7), .second, .val (.long q8), .second] [])) _
    refine XS.aloadN X0.here hx rfl (hb hby d4_0) rfl rfl ?_
    show Steps p.tables e below (s₁.setTop (mkF m 1 #[.val (.ref a1), .val (.long q2), .second, .val (.long q3), .second, .val (.long q4), .second, .val (.long q5), .second, .val (.long q6), .second, .val (.long q7), .second, .val (.long q8), .second] [(.ref a1)])) _
    refine st9.trans ?_
    show Steps p.tables e below (T9.setTop (mkF m 4 #[.val (.ref a1), .val (.long q2), .second, .val (.long q3), .second, .val (.long q4), .second, .val (.long q5), .second, .val (.long q6), .second, .val (.long q7), .second, .val (.long q8), .second] [])) _
    refine XS.aloadN X9.here hx rfl (hb hby d4_4) rfl rfl ?_
    show Steps p.tables e below (T9.setTop (mkF m 5 #[.val (.ref a1), .val (.long q2), .second, .val (.long q3), .second, .val (.long q4), .second, .val (.long q5), .second, .val (.long q6), .second, .val (.long q7), .second, .val (.long q8), .second] [(.ref a1)])) _
    refine XS.lloadN X9.here hx rfl (hb hby d4_5) rfl ?_
    show Steps p.tables e below (T9.setTop (mkF m 6 #[.val (.ref a1), .val (.long q2), .second, .val (.long q3), .second, .val (.long q4), .second, .val (.long q5), .second, .val (.long q6), .second, .val (.long q7), .second, .val (.long q8), .second] [(.long q2), (.ref a1)])) _
    refine st10 _ ?_
    show Steps p.tables e below (T10.setTop (mkF m 9 #[.val (.ref a1), .val (.long q2), .second, .val (.long q3), .second, .val (.long q4), .second, .val (.long q5), .second, .val (.long q6), .second, .val (.long q7), .second, .val (.long q8), .second] [])) _
    refine XS.aloadN X10.here hx rfl (hb hby d4_9) rfl rfl ?_
    show Steps p.tables e below (T10.setTop (mkF m 10 #[.val (.ref a1), .val (.long q2), .second, .val (.long q3), .second, .val (.long q4), .second, .val (.long q5), .second, .val (.long q6), .second, .val (.long q7), .second, .val (.long q8), .second] [(.ref a1)])) _
    refine XS.lloadN X10.here hx rfl (hb hby d4_10) rfl ?_
    show Steps p.tables e below (T10.setTop (mkF m 11 #[.val (.ref a1), .val (.long q2), .second, .val (.long q3), .second, .val (.long q4), .second, .val (.long q5), .second, .val (.long q6), .second, .val (.long q7), .second, .val (.long q8), .second] [(.long q3), (.ref a1)])) _
    refine st11 _ ?_
    show Steps p.tables e below (T11.setTop (mkF m 14 #[.val (.ref a1), .val (.long q2), .second, .val (.long q3), .second, .val (.long q4), .second, .val (.long q5), .second, .val (.long q6), .second, .val (.long q7), .second, .val (.long q8), .second] [])) _
    refine XS.aloadN X11.here hx rfl (hb hby d4_14) rfl rfl ?_
    show Steps p.tables e below (T11.setTop (mkF m 15 #[.val (.ref a1), .val (.long q2), .second, .val (.long q3), .second, .val (.long q4), .second, .val (.long q5), .second, .val (.long q6), .second, .val (.long q7), .second, .val (.long q8), .second] [(.ref a1)])) _
    refine XS.lload X11.here hx rfl (hb hby d4_15) rfl ?_
    show Steps p.tables e below (T11.setTop (mkF m 17 #[.val (.ref a1), .val (.long q2), .second, .val (.long q3), .second, .val (.long q4), .second, .val (.long q5), .second, .val (.long q6), .second, .val (.long q7), .second, .val (.long q8), .second] [(.long q4), (.ref a1)])) _
    refine st12 _ ?_
    show Steps p.tables e below (T12.setTop (mkF m 20 #[.val (.ref a1), .val (.long q2), .second, .val (.long q3), .second, .val (.long q4), .second, .val (.long q5), .second, .val (.long q6), .second, .val (.long q7), .second, .val (.long q8), .second] [])) _
    refine XS.aloadN X12.here hx rfl (hb hby d4_20) rfl rfl ?_
    show Steps p.tables e below (T12.setTop (mkF m 21 #[.val (.ref a1), .val (.long q2), .second, .val (.long q3), .second, .val (.long q4), .second, .val (.long q5), .second, .val (.long q6), .second, .val (.long q7), .second, .val (.long q8), .second] [(.ref a1)])) _
    refine XS.lload X12.here hx rfl (hb hby d4_21) rfl ?_
    show Steps p.tables e below (T12.setTop (mkF m 23 #[.val (.ref a1), .val (.long q2), .second, .val (.long q3), .second, .val (.long q4), .second, .val (.long q5), .second, .val (.long q6), .second, .val (.long q7), .second, .val (.long q8), .second] [(.long q5), (.ref a1)])) _
    refine st13 _ ?_
    show Steps p.tables e below (T13.setTop (mkF m 26 #[.val (.ref a1), .val (.long q2), .second, .val (.long q3), .second, .val (.long q4), .second, .val (.long q5), .second, .val (.long q6), .second, .val (.long q7), .second, .val (.long q8), .second] [])) _
    refine XS.aloadN X13.here hx rfl (hb hby d4_26) rfl rfl ?_
    show Steps p.tables e below (T13.setTop (mkF m 27 #[.val (.ref a1), .val (.long q2), .second, .val (.long q3), .second, .val (.long q4), .second, .val (.long q5), .second, .val (.long q6), .second, .val (.long q7), .second, .val (.long q8), .second] [(.ref a1)])) _
    refine XS.lload X13.here hx rfl (hb hby d4_27) rfl ?_
    show Steps p.tables e below (T13.setTop (mkF m 29 #[.val (.ref a1), .val (.long q2), .second, .val (.long q3), .second, .val (.long q4), .second, .val (.long q5), .second, .val (.long q6), .second, .val (.long q7), .second, .val (.long q8), .second] [(.long q6), (.ref a1)])) _
    refine st14 _ ?_
    show Steps p.tables e below (T14.setTop (mkF m 32 #[.val (.ref a1), .val (.long q2), .second, .val (.long q3), .second, .val (.long q4), .second, .val (.long q5), .second, .val (.long q6), .second, .val (.long q7), .second, .val (.long q8), .second] [])) _
    refine XS.aloadN X14.here hx rfl (hb hby d4_32) rfl rfl ?_
    show Steps p.tables e below (T14.setTop (mkF m 33 #[.val (.ref a1), .val (.long q2), .second, .val (.long q3), .second, .val (.long q4), .second, .val (.long q5), .second, .val (.long q6), .second, .val (.long q7), .second, .val (.long q8), .second] [(.ref a1)])) _
    refine XS.lload X14.here hx rfl (hb hby d4_33) rfl ?_
    show Steps p.tables e below (T14.setTop (mkF m 35 #[.val (.ref a1), .val (.long q2), .second, .val (.long q3), .second, .val (.long q4), .second, .val (.long q5), .second, .val (.long q6), .second, .val (.long q7), .second, .val (.long q8), .second] [(.long q7), (.ref a1)])) _
    refine st15 _ ?_
    show Steps p.tables e below (T15.setTop (mkF m 38 #[.val (.ref a1), .val (.long q2), .second, .val (.long q3), .second, .val (.long q4), .second, .val (.long q5), .second, .val (.long q6), .second, .val (.long q7), .second, .val (.long q8), .second] [])) _
    refine XS.aloadN X15.here hx rfl (hb hby d4_38) rfl rfl ?_
    show Steps p.tables e below (T15.setTop (mkF m 39 #[.val (.ref a1), .val (.long q2), .second, .val (.long q3), .second, .val (.long q4), .second, .val (.long q5), .second, .val (.long q6), .second, .val (.long q7), .second, .val (.long q8), .second] [(.ref a1)])) _
    refine XS.lload X15.here hx rfl (hb hby d4_39) rfl ?_
    show Steps p.tables e below (T15.setTop (mkF m 41 #[.val (.ref a1), .val (.long q2), .second, .val (.long q3), .second, .val (.long q4), .second, .val (.long q5), .second, .val (.long q6), .second, .val (.long q7), .second, .val (.long q8), .second] [(.long q8), (.ref a1)])) _
    refine st16 _ ?_
    show Steps p.tables e below (T16.setTop (mkF m 44 #[.val (.ref a1), .val (.long q2), .second, .val (.long q3), .second, .val (.long q4), .second, .val (.long q5), .second, .val (.long q6), .second, .val (.long q7), .second, .val (.long q8), .second] [])) _
    exact X16.returnOut hx Bd.returns (hb hby d4_44) hr
  · show Q4 Z a1 q2 q3 q4 q5 q6 q7 q8 u_compensation_a1 u_cappedCompensation_a1 u_deferrals_a1 u_catchUp_a1 u_excessDeferrals_a1 u_match_a1 u_profitSharing_a1 h0 n0 _ T16.heap _
    rw [e16]
    exact ⟨rfl, N16, K16, (((((((E_a1.wr W10).wr W11).wr W12).wr W13).wr W14).wr W15).wr W16), ((((((Fw10.other W11 (Or.inr (slot_ne (Or.inr (hw _ (List.mem_of_getElem? (i := 38) rfl))) (Or.inr (hw _ (List.mem_of_getElem? (i := 40) rfl))) (by decide) (t := .long) (t' := .long) (by decide) (by decide)))).other W12 (Or.inr (slot_ne (Or.inr (hw _ (List.mem_of_getElem? (i := 38) rfl))) (Or.inr (hw _ (List.mem_of_getElem? (i := 42) rfl))) (by decide) (t := .long) (t' := .long) (by decide) (by decide)))).other W13 (Or.inr (slot_ne (Or.inr (hw _ (List.mem_of_getElem? (i := 38) rfl))) (Or.inr (hw _ (List.mem_of_getElem? (i := 44) rfl))) (by decide) (t := .long) (t' := .long) (by decide) (by decide)))).other W14 (Or.inr (slot_ne (Or.inr (hw _ (List.mem_of_getElem? (i := 38) rfl))) (Or.inr (hw _ (List.mem_of_getElem? (i := 46) rfl))) (by decide) (t := .long) (t' := .long) (by decide) (by decide)))).other W15 (Or.inr (slot_ne (Or.inr (hw _ (List.mem_of_getElem? (i := 38) rfl))) (Or.inr (hw _ (List.mem_of_getElem? (i := 48) rfl))) (by decide) (t := .long) (t' := .long) (by decide) (by decide)))).other W16 (Or.inr (slot_ne (Or.inr (hw _ (List.mem_of_getElem? (i := 38) rfl))) (Or.inr (hw _ (List.mem_of_getElem? (i := 50) rfl))) (by decide) (t := .long) (t' := .long) (by decide) (by decide)))), (((((Fw11.other W12 (Or.inr (slot_ne (Or.inr (hw _ (List.mem_of_getElem? (i := 40) rfl))) (Or.inr (hw _ (List.mem_of_getElem? (i := 42) rfl))) (by decide) (t := .long) (t' := .long) (by decide) (by decide)))).other W13 (Or.inr (slot_ne (Or.inr (hw _ (List.mem_of_getElem? (i := 40) rfl))) (Or.inr (hw _ (List.mem_of_getElem? (i := 44) rfl))) (by decide) (t := .long) (t' := .long) (by decide) (by decide)))).other W14 (Or.inr (slot_ne (Or.inr (hw _ (List.mem_of_getElem? (i := 40) rfl))) (Or.inr (hw _ (List.mem_of_getElem? (i := 46) rfl))) (by decide) (t := .long) (t' := .long) (by decide) (by decide)))).other W15 (Or.inr (slot_ne (Or.inr (hw _ (List.mem_of_getElem? (i := 40) rfl))) (Or.inr (hw _ (List.mem_of_getElem? (i := 48) rfl))) (by decide) (t := .long) (t' := .long) (by decide) (by decide)))).other W16 (Or.inr (slot_ne (Or.inr (hw _ (List.mem_of_getElem? (i := 40) rfl))) (Or.inr (hw _ (List.mem_of_getElem? (i := 50) rfl))) (by decide) (t := .long) (t' := .long) (by decide) (by decide)))), ((((Fw12.other W13 (Or.inr (slot_ne (Or.inr (hw _ (List.mem_of_getElem? (i := 42) rfl))) (Or.inr (hw _ (List.mem_of_getElem? (i := 44) rfl))) (by decide) (t := .long) (t' := .long) (by decide) (by decide)))).other W14 (Or.inr (slot_ne (Or.inr (hw _ (List.mem_of_getElem? (i := 42) rfl))) (Or.inr (hw _ (List.mem_of_getElem? (i := 46) rfl))) (by decide) (t := .long) (t' := .long) (by decide) (by decide)))).other W15 (Or.inr (slot_ne (Or.inr (hw _ (List.mem_of_getElem? (i := 42) rfl))) (Or.inr (hw _ (List.mem_of_getElem? (i := 48) rfl))) (by decide) (t := .long) (t' := .long) (by decide) (by decide)))).other W16 (Or.inr (slot_ne (Or.inr (hw _ (List.mem_of_getElem? (i := 42) rfl))) (Or.inr (hw _ (List.mem_of_getElem? (i := 50) rfl))) (by decide) (t := .long) (t' := .long) (by decide) (by decide)))), (((Fw13.other W14 (Or.inr (slot_ne (Or.inr (hw _ (List.mem_of_getElem? (i := 44) rfl))) (Or.inr (hw _ (List.mem_of_getElem? (i := 46) rfl))) (by decide) (t := .long) (t' := .long) (by decide) (by decide)))).other W15 (Or.inr (slot_ne (Or.inr (hw _ (List.mem_of_getElem? (i := 44) rfl))) (Or.inr (hw _ (List.mem_of_getElem? (i := 48) rfl))) (by decide) (t := .long) (t' := .long) (by decide) (by decide)))).other W16 (Or.inr (slot_ne (Or.inr (hw _ (List.mem_of_getElem? (i := 44) rfl))) (Or.inr (hw _ (List.mem_of_getElem? (i := 50) rfl))) (by decide) (t := .long) (t' := .long) (by decide) (by decide)))), ((Fw14.other W15 (Or.inr (slot_ne (Or.inr (hw _ (List.mem_of_getElem? (i := 46) rfl))) (Or.inr (hw _ (List.mem_of_getElem? (i := 48) rfl))) (by decide) (t := .long) (t' := .long) (by decide) (by decide)))).other W16 (Or.inr (slot_ne (Or.inr (hw _ (List.mem_of_getElem? (i := 46) rfl))) (Or.inr (hw _ (List.mem_of_getElem? (i := 50) rfl))) (by decide) (t := .long) (t' := .long) (by decide) (by decide)))), (Fw15.other W16 (Or.inr (slot_ne (Or.inr (hw _ (List.mem_of_getElem? (i := 48) rfl))) (Or.inr (hw _ (List.mem_of_getElem? (i := 50) rfl))) (by decide) (t := .long) (t' := .long) (by decide) (by decide)))), Fw16⟩

theorem d7_0 : decode prog_92_method_5_code 0 = .ok (.aload_n 0, 1) := by decide +kernel
theorem d7_1 : decode prog_92_method_5_code 1 = .ok (.getfield 7, 3) := by decide +kernel
theorem d7_4 : decode prog_92_method_5_code 4 = .ok (.lreturn, 1) := by decide +kernel
theorem pn_7 : plainName "com/example/vestry/vestry/rules/Allocated" = true := by first | (simp [plainName, overriddenIn]; done) | decide +kernel
theorem ef_7 (m : MethodId) (x0 : Addr) : entryFrame m #[(.ref x0)] 1 = mkF m 0 #[.val (.ref x0)] [] := by first | (simp [entryFrame, mkF, argsToLocals, Value.category]; done) | rfl
def Q7 (Z : State) (a1 : Addr) (w2 : Int64) (h0 : Heap) (n0 : Nat) (v : Option Value) (h : Heap) (L : List Loc) : Prop := v = some (.long w2) ∧ Fr n0 L ∧ h = h0
set_option maxRecDepth 65536 in
set_option maxHeartbeats 40000000 in
theorem rm7 (l : Launch) (Z : State) (a0 : Array Value) (hw : ∀ d ∈ tables_1, d.before a0 Z = true) (ws : List Jvm.Cond) (a1 : Addr) (w2 : Int64) (h0 : Heap) (n0 : Nat) (Z0 : n0 ≤ h0.size) (F_compensation_a1 : Fld Z h0 a1 "com/example/vestry/vestry/rules/Allocated" "compensation" "J" (.long w2)) :
    MetFree l (⟨"com/example/vestry/vestry/rules/Allocated", "compensation", "()J"⟩ : MethodName) (head1 (Jvm.Cond.code (⟨"com/example/vestry/vestry/rules/Allocated", "compensation", "()J"⟩ : MethodName) prog_92_method_5_code 1 (some .long) :: ws) ({ frames := 0, cells := 0, slots := 0, locals := 0 } : Room)) (fun a U => a = #[(.ref a1)] ∧ Z.Warmed39 U.vm ∧ U.heap = h0) (fun _ _ _ _ _ => True) (fun _ U o U' => ∃ v L, o = .returned v ∧ Q7 Z a1 w2 h0 n0 v U'.heap L ∧ FrameEnd U o U' L ({ frames := 0, cells := 0, slots := 0, locals := 0 } : Room).cells ({ frames := 0, cells := 0, slots := 0, locals := 0 } : Room).slots) := by
  refine MetFree.of_bodySF (plainFor_of_name pn_7) hisR ?_
  intro p e s m args below meth c s₁ Bd hml0 hP hK
  obtain ⟨rfl, hZ, hh⟩ := hP
  have hx := Bd.exec
  have hby := Bd.bytes
  have hml : c.maxLocals = 1 := hml0
  have hown : s.vm.findClass "com/example/vestry/vestry/rules/Allocated" = some m.cls := findClass_of_methodNamed Bd.named
  have hnm := (name_of_methodNamed Bd.named Bd.method).1
  have X0 : Stand p l e ({ frames := 0, cells := 0, slots := 0, locals := 0 } : Room) s m #[(.ref a1)] below meth c s₁ [] 0 0 := Stand.of_body Bd
  have e0 : s₁.heap = h0 := by rw [← hh, Bd.state]; rfl
  have N0 := Fr.nil n0
  have pre0 : ∀ t, Steps p.tables e below (s₁.setTop (mkF m 0 #[.val (.ref a1)] [])) t → Steps p.tables e below (s₁.setTop (entryFrame m #[(.ref a1)] 1)) t := fun t k => castTop (ef_7 m a1) k
  obtain ⟨T3, X3, e3, st3⟩ := getF X0 hx hZ hown (host := "") (Or.inl (hw _ (List.mem_of_getElem? (i := 37) rfl))) Via.refl e0 F_compensation_a1 (g := (mkF m 1 #[.val (.ref a1)] [(.ref a1)])) rfl rfl (hb hby d7_1)
  obtain ⟨fs, hr, hrun, hended, hW, hsame⟩ := X3.leave (v := some (.long w2)) (fun h => by rw [Bd.returns] at h; cases h)
  refine ⟨_, _, pre0 _ ?_, hrun, hended, _, _, rfl, ?_, ⟨_, rfl⟩, hW, hsame.mono (by decide) (by decide)⟩
  · show Steps p.tables e below (s₁.setTop (mkF m 0 #[.val (.ref a1)] [])) _
    refine XS.aloadN X0.here hx rfl (hb hby d7_0) rfl rfl ?_
    show Steps p.tables e below (s₁.setTop (mkF m 1 #[.val (.ref a1)] [(.ref a1)])) _
    refine st3 _ ?_
    show Steps p.tables e below (T3.setTop (mkF m 4 #[.val (.ref a1)] [(.long w2)])) _
    jvm_step X3.here [X3.here.top, hx, (hb hby d7_4), X3.method', Bd.returns, narrow]
    first | (intro acts; rw [hr _ acts rfl rfl rfl]) | rw [hr _ _ rfl rfl rfl]
    exact Steps.refl _
  · show Q7 Z a1 w2 h0 n0 _ T3.heap _
    rw [e3]
    exact ⟨rfl, N0, rfl⟩

theorem d8_0 : decode prog_92_method_6_code 0 = .ok (.aload_n 0, 1) := by decide +kernel
theorem d8_1 : decode prog_92_method_6_code 1 = .ok (.getfield 13, 3) := by decide +kernel
theorem d8_4 : decode prog_92_method_6_code 4 = .ok (.lreturn, 1) := by decide +kernel
theorem pn_8 : plainName "com/example/vestry/vestry/rules/Allocated" = true := by first | (simp [plainName, overriddenIn]; done) | decide +kernel
theorem ef_8 (m : MethodId) (x0 : Addr) : entryFrame m #[(.ref x0)] 1 = mkF m 0 #[.val (.ref x0)] [] := by first | (simp [entryFrame, mkF, argsToLocals, Value.category]; done) | rfl
def Q8 (Z : State) (a1 : Addr) (w2 : Int64) (h0 : Heap) (n0 : Nat) (v : Option Value) (h : Heap) (L : List Loc) : Prop := v = some (.long w2) ∧ Fr n0 L ∧ h = h0
set_option maxRecDepth 65536 in
set_option maxHeartbeats 40000000 in
theorem rm8 (l : Launch) (Z : State) (a0 : Array Value) (hw : ∀ d ∈ tables_1, d.before a0 Z = true) (ws : List Jvm.Cond) (a1 : Addr) (w2 : Int64) (h0 : Heap) (n0 : Nat) (Z0 : n0 ≤ h0.size) (F_cappedCompensation_a1 : Fld Z h0 a1 "com/example/vestry/vestry/rules/Allocated" "cappedCompensation" "J" (.long w2)) :
    MetFree l (⟨"com/example/vestry/vestry/rules/Allocated", "cappedCompensation", "()J"⟩ : MethodName) (head1 (Jvm.Cond.code (⟨"com/example/vestry/vestry/rules/Allocated", "cappedCompensation", "()J"⟩ : MethodName) prog_92_method_6_code 1 (some .long) :: ws) ({ frames := 0, cells := 0, slots := 0, locals := 0 } : Room)) (fun a U => a = #[(.ref a1)] ∧ Z.Warmed39 U.vm ∧ U.heap = h0) (fun _ _ _ _ _ => True) (fun _ U o U' => ∃ v L, o = .returned v ∧ Q8 Z a1 w2 h0 n0 v U'.heap L ∧ FrameEnd U o U' L ({ frames := 0, cells := 0, slots := 0, locals := 0 } : Room).cells ({ frames := 0, cells := 0, slots := 0, locals := 0 } : Room).slots) := by
  refine MetFree.of_bodySF (plainFor_of_name pn_8) hisR ?_
  intro p e s m args below meth c s₁ Bd hml0 hP hK
  obtain ⟨rfl, hZ, hh⟩ := hP
  have hx := Bd.exec
  have hby := Bd.bytes
  have hml : c.maxLocals = 1 := hml0
  have hown : s.vm.findClass "com/example/vestry/vestry/rules/Allocated" = some m.cls := findClass_of_methodNamed Bd.named
  have hnm := (name_of_methodNamed Bd.named Bd.method).1
  have X0 : Stand p l e ({ frames := 0, cells := 0, slots := 0, locals := 0 } : Room) s m #[(.ref a1)] below meth c s₁ [] 0 0 := Stand.of_body Bd
  have e0 : s₁.heap = h0 := by rw [← hh, Bd.state]; rfl
  have N0 := Fr.nil n0
  have pre0 : ∀ t, Steps p.tables e below (s₁.setTop (mkF m 0 #[.val (.ref a1)] [])) t → Steps p.tables e below (s₁.setTop (entryFrame m #[(.ref a1)] 1)) t := fun t k => castTop (ef_8 m a1) k
  obtain ⟨T3, X3, e3, st3⟩ := getF X0 hx hZ hown (host := "") (Or.inl (hw _ (List.mem_of_getElem? (i := 39) rfl))) Via.refl e0 F_cappedCompensation_a1 (g := (mkF m 1 #[.val (.ref a1)] [(.ref a1)])) rfl rfl (hb hby d8_1)
  obtain ⟨fs, hr, hrun, hended, hW, hsame⟩ := X3.leave (v := some (.long w2)) (fun h => by rw [Bd.returns] at h; cases h)
  refine ⟨_, _, pre0 _ ?_, hrun, hended, _, _, rfl, ?_, ⟨_, rfl⟩, hW, hsame.mono (by decide) (by decide)⟩
  · show Steps p.tables e below (s₁.setTop (mkF m 0 #[.val (.ref a1)] [])) _
    refine XS.aloadN X0.here hx rfl (hb hby d8_0) rfl rfl ?_
    show Steps p.tables e below (s₁.setTop (mkF m 1 #[.val (.ref a1)] [(.ref a1)])) _
    refine st3 _ ?_
    show Steps p.tables e below (T3.setTop (mkF m 4 #[.val (.ref a1)] [(.long w2)])) _
    jvm_step X3.here [X3.here.top, hx, (hb hby d8_4), X3.method', Bd.returns, narrow]
    first | (intro acts; rw [hr _ acts rfl rfl rfl]) | rw [hr _ _ rfl rfl rfl]
    exact Steps.refl _
  · show Q8 Z a1 w2 h0 n0 _ T3.heap _
    rw [e3]
    exact ⟨rfl, N0, rfl⟩

theorem d9_0 : decode prog_92_method_7_code 0 = .ok (.aload_n 0, 1) := by decide +kernel
theorem d9_1 : decode prog_92_method_7_code 1 = .ok (.getfield 16, 3) := by decide +kernel
theorem d9_4 : decode prog_92_method_7_code 4 = .ok (.lreturn, 1) := by decide +kernel
theorem pn_9 : plainName "com/example/vestry/vestry/rules/Allocated" = true := by first | (simp [plainName, overriddenIn]; done) | decide +kernel
theorem ef_9 (m : MethodId) (x0 : Addr) : entryFrame m #[(.ref x0)] 1 = mkF m 0 #[.val (.ref x0)] [] := by first | (simp [entryFrame, mkF, argsToLocals, Value.category]; done) | rfl
def Q9 (Z : State) (a1 : Addr) (w2 : Int64) (h0 : Heap) (n0 : Nat) (v : Option Value) (h : Heap) (L : List Loc) : Prop := v = some (.long w2) ∧ Fr n0 L ∧ h = h0
set_option maxRecDepth 65536 in
set_option maxHeartbeats 40000000 in
theorem rm9 (l : Launch) (Z : State) (a0 : Array Value) (hw : ∀ d ∈ tables_1, d.before a0 Z = true) (ws : List Jvm.Cond) (a1 : Addr) (w2 : Int64) (h0 : Heap) (n0 : Nat) (Z0 : n0 ≤ h0.size) (F_deferrals_a1 : Fld Z h0 a1 "com/example/vestry/vestry/rules/Allocated" "deferrals" "J" (.long w2)) :
    MetFree l (⟨"com/example/vestry/vestry/rules/Allocated", "deferrals", "()J"⟩ : MethodName) (head1 (Jvm.Cond.code (⟨"com/example/vestry/vestry/rules/Allocated", "deferrals", "()J"⟩ : MethodName) prog_92_method_7_code 1 (some .long) :: ws) ({ frames := 0, cells := 0, slots := 0, locals := 0 } : Room)) (fun a U => a = #[(.ref a1)] ∧ Z.Warmed39 U.vm ∧ U.heap = h0) (fun _ _ _ _ _ => True) (fun _ U o U' => ∃ v L, o = .returned v ∧ Q9 Z a1 w2 h0 n0 v U'.heap L ∧ FrameEnd U o U' L ({ frames := 0, cells := 0, slots := 0, locals := 0 } : Room).cells ({ frames := 0, cells := 0, slots := 0, locals := 0 } : Room).slots) := by
  refine MetFree.of_bodySF (plainFor_of_name pn_9) hisR ?_
  intro p e s m args below meth c s₁ Bd hml0 hP hK
  obtain ⟨rfl, hZ, hh⟩ := hP
  have hx := Bd.exec
  have hby := Bd.bytes
  have hml : c.maxLocals = 1 := hml0
  have hown : s.vm.findClass "com/example/vestry/vestry/rules/Allocated" = some m.cls := findClass_of_methodNamed Bd.named
  have hnm := (name_of_methodNamed Bd.named Bd.method).1
  have X0 : Stand p l e ({ frames := 0, cells := 0, slots := 0, locals := 0 } : Room) s m #[(.ref a1)] below meth c s₁ [] 0 0 := Stand.of_body Bd
  have e0 : s₁.heap = h0 := by rw [← hh, Bd.state]; rfl
  have N0 := Fr.nil n0
  have pre0 : ∀ t, Steps p.tables e below (s₁.setTop (mkF m 0 #[.val (.ref a1)] [])) t → Steps p.tables e below (s₁.setTop (entryFrame m #[(.ref a1)] 1)) t := fun t k => castTop (ef_9 m a1) k
  obtain ⟨T3, X3, e3, st3⟩ := getF X0 hx hZ hown (host := "") (Or.inl (hw _ (List.mem_of_getElem? (i := 41) rfl))) Via.refl e0 F_deferrals_a1 (g := (mkF m 1 #[.val (.ref a1)] [(.ref a1)])) rfl rfl (hb hby d9_1)
  obtain ⟨fs, hr, hrun, hended, hW, hsame⟩ := X3.leave (v := some (.long w2)) (fun h => by rw [Bd.returns] at h; cases h)
  refine ⟨_, _, pre0 _ ?_, hrun, hended, _, _, rfl, ?_, ⟨_, rfl⟩, hW, hsame.mono (by decide) (by decide)⟩
  · show Steps p.tables e below (s₁.setTop (mkF m 0 #[.val (.ref a1)] [])) _
    refine XS.aloadN X0.here hx rfl (hb hby d9_0) rfl rfl ?_
    show Steps p.tables e below (s₁.setTop (mkF m 1 #[.val (.ref a1)] [(.ref a1)])) _
    refine st3 _ ?_
    show Steps p.tables e below (T3.setTop (mkF m 4 #[.val (.ref a1)] [(.long w2)])) _
    jvm_step X3.here [X3.here.top, hx, (hb hby d9_4), X3.method', Bd.returns, narrow]
    first | (intro acts; rw [hr _ acts rfl rfl rfl]) | rw [hr _ _ rfl rfl rfl]
    exact Steps.refl _
  · show Q9 Z a1 w2 h0 n0 _ T3.heap _
    rw [e3]
    exact ⟨rfl, N0, rfl⟩

theorem d10_0 : decode prog_92_method_8_code 0 = .ok (.aload_n 0, 1) := by decide +kernel
theorem d10_1 : decode prog_92_method_8_code 1 = .ok (.getfield 19, 3) := by decide +kernel
theorem d10_4 : decode prog_92_method_8_code 4 = .ok (.lreturn, 1) := by decide +kernel
theorem pn_10 : plainName "com/example/vestry/vestry/rules/Allocated" = true := by first | (simp [plainName, overriddenIn]; done) | decide +kernel
theorem ef_10 (m : MethodId) (x0 : Addr) : entryFrame m #[(.ref x0)] 1 = mkF m 0 #[.val (.ref x0)] [] := by first | (simp [entryFrame, mkF, argsToLocals, Value.category]; done) | rfl
def Q10 (Z : State) (a1 : Addr) (w2 : Int64) (h0 : Heap) (n0 : Nat) (v : Option Value) (h : Heap) (L : List Loc) : Prop := v = some (.long w2) ∧ Fr n0 L ∧ h = h0
set_option maxRecDepth 65536 in
set_option maxHeartbeats 40000000 in
theorem rm10 (l : Launch) (Z : State) (a0 : Array Value) (hw : ∀ d ∈ tables_1, d.before a0 Z = true) (ws : List Jvm.Cond) (a1 : Addr) (w2 : Int64) (h0 : Heap) (n0 : Nat) (Z0 : n0 ≤ h0.size) (F_catchUp_a1 : Fld Z h0 a1 "com/example/vestry/vestry/rules/Allocated" "catchUp" "J" (.long w2)) :
    MetFree l (⟨"com/example/vestry/vestry/rules/Allocated", "catchUp", "()J"⟩ : MethodName) (head1 (Jvm.Cond.code (⟨"com/example/vestry/vestry/rules/Allocated", "catchUp", "()J"⟩ : MethodName) prog_92_method_8_code 1 (some .long) :: ws) ({ frames := 0, cells := 0, slots := 0, locals := 0 } : Room)) (fun a U => a = #[(.ref a1)] ∧ Z.Warmed39 U.vm ∧ U.heap = h0) (fun _ _ _ _ _ => True) (fun _ U o U' => ∃ v L, o = .returned v ∧ Q10 Z a1 w2 h0 n0 v U'.heap L ∧ FrameEnd U o U' L ({ frames := 0, cells := 0, slots := 0, locals := 0 } : Room).cells ({ frames := 0, cells := 0, slots := 0, locals := 0 } : Room).slots) := by
  refine MetFree.of_bodySF (plainFor_of_name pn_10) hisR ?_
  intro p e s m args below meth c s₁ Bd hml0 hP hK
  obtain ⟨rfl, hZ, hh⟩ := hP
  have hx := Bd.exec
  have hby := Bd.bytes
  have hml : c.maxLocals = 1 := hml0
  have hown : s.vm.findClass "com/example/vestry/vestry/rules/Allocated" = some m.cls := findClass_of_methodNamed Bd.named
  have hnm := (name_of_methodNamed Bd.named Bd.method).1
  have X0 : Stand p l e ({ frames := 0, cells := 0, slots := 0, locals := 0 } : Room) s m #[(.ref a1)] below meth c s₁ [] 0 0 := Stand.of_body Bd
  have e0 : s₁.heap = h0 := by rw [← hh, Bd.state]; rfl
  have N0 := Fr.nil n0
  have pre0 : ∀ t, Steps p.tables e below (s₁.setTop (mkF m 0 #[.val (.ref a1)] [])) t → Steps p.tables e below (s₁.setTop (entryFrame m #[(.ref a1)] 1)) t := fun t k => castTop (ef_10 m a1) k
  obtain ⟨T3, X3, e3, st3⟩ := getF X0 hx hZ hown (host := "") (Or.inl (hw _ (List.mem_of_getElem? (i := 43) rfl))) Via.refl e0 F_catchUp_a1 (g := (mkF m 1 #[.val (.ref a1)] [(.ref a1)])) rfl rfl (hb hby d10_1)
  obtain ⟨fs, hr, hrun, hended, hW, hsame⟩ := X3.leave (v := some (.long w2)) (fun h => by rw [Bd.returns] at h; cases h)
  refine ⟨_, _, pre0 _ ?_, hrun, hended, _, _, rfl, ?_, ⟨_, rfl⟩, hW, hsame.mono (by decide) (by decide)⟩
  · show Steps p.tables e below (s₁.setTop (mkF m 0 #[.val (.ref a1)] [])) _
    refine XS.aloadN X0.here hx rfl (hb hby d10_0) rfl rfl ?_
    show Steps p.tables e below (s₁.setTop (mkF m 1 #[.val (.ref a1)] [(.ref a1)])) _
    refine st3 _ ?_
    show Steps p.tables e below (T3.setTop (mkF m 4 #[.val (.ref a1)] [(.long w2)])) _
    jvm_step X3.here [X3.here.top, hx, (hb hby d10_4), X3.method', Bd.returns, narrow]
    first | (intro acts; rw [hr _ acts rfl rfl rfl]) | rw [hr _ _ rfl rfl rfl]
    exact Steps.refl _
  · show Q10 Z a1 w2 h0 n0 _ T3.heap _
    rw [e3]
    exact ⟨rfl, N0, rfl⟩

theorem d11_0 : decode prog_92_method_9_code 0 = .ok (.aload_n 0, 1) := by decide +kernel
theorem d11_1 : decode prog_92_method_9_code 1 = .ok (.getfield 22, 3) := by decide +kernel
theorem d11_4 : decode prog_92_method_9_code 4 = .ok (.lreturn, 1) := by decide +kernel
theorem pn_11 : plainName "com/example/vestry/vestry/rules/Allocated" = true := by first | (simp [plainName, overriddenIn]; done) | decide +kernel
theorem ef_11 (m : MethodId) (x0 : Addr) : entryFrame m #[(.ref x0)] 1 = mkF m 0 #[.val (.ref x0)] [] := by first | (simp [entryFrame, mkF, argsToLocals, Value.category]; done) | rfl
def Q11 (Z : State) (a1 : Addr) (w2 : Int64) (h0 : Heap) (n0 : Nat) (v : Option Value) (h : Heap) (L : List Loc) : Prop := v = some (.long w2) ∧ Fr n0 L ∧ h = h0
set_option maxRecDepth 65536 in
set_option maxHeartbeats 40000000 in
theorem rm11 (l : Launch) (Z : State) (a0 : Array Value) (hw : ∀ d ∈ tables_1, d.before a0 Z = true) (ws : List Jvm.Cond) (a1 : Addr) (w2 : Int64) (h0 : Heap) (n0 : Nat) (Z0 : n0 ≤ h0.size) (F_excessDeferrals_a1 : Fld Z h0 a1 "com/example/vestry/vestry/rules/Allocated" "excessDeferrals" "J" (.long w2)) :
    MetFree l (⟨"com/example/vestry/vestry/rules/Allocated", "excessDeferrals", "()J"⟩ : MethodName) (head1 (Jvm.Cond.code (⟨"com/example/vestry/vestry/rules/Allocated", "excessDeferrals", "()J"⟩ : MethodName) prog_92_method_9_code 1 (some .long) :: ws) ({ frames := 0, cells := 0, slots := 0, locals := 0 } : Room)) (fun a U => a = #[(.ref a1)] ∧ Z.Warmed39 U.vm ∧ U.heap = h0) (fun _ _ _ _ _ => True) (fun _ U o U' => ∃ v L, o = .returned v ∧ Q11 Z a1 w2 h0 n0 v U'.heap L ∧ FrameEnd U o U' L ({ frames := 0, cells := 0, slots := 0, locals := 0 } : Room).cells ({ frames := 0, cells := 0, slots := 0, locals := 0 } : Room).slots) := by
  refine MetFree.of_bodySF (plainFor_of_name pn_11) hisR ?_
  intro p e s m args below meth c s₁ Bd hml0 hP hK
  obtain ⟨rfl, hZ, hh⟩ := hP
  have hx := Bd.exec
  have hby := Bd.bytes
  have hml : c.maxLocals = 1 := hml0
  have hown : s.vm.findClass "com/example/vestry/vestry/rules/Allocated" = some m.cls := findClass_of_methodNamed Bd.named
  have hnm := (name_of_methodNamed Bd.named Bd.method).1
  have X0 : Stand p l e ({ frames := 0, cells := 0, slots := 0, locals := 0 } : Room) s m #[(.ref a1)] below meth c s₁ [] 0 0 := Stand.of_body Bd
  have e0 : s₁.heap = h0 := by rw [← hh, Bd.state]; rfl
  have N0 := Fr.nil n0
  have pre0 : ∀ t, Steps p.tables e below (s₁.setTop (mkF m 0 #[.val (.ref a1)] [])) t → Steps p.tables e below (s₁.setTop (entryFrame m #[(.ref a1)] 1)) t := fun t k => castTop (ef_11 m a1) k
  obtain ⟨T3, X3, e3, st3⟩ := getF X0 hx hZ hown (host := "") (Or.inl (hw _ (List.mem_of_getElem? (i := 45) rfl))) Via.refl e0 F_excessDeferrals_a1 (g := (mkF m 1 #[.val (.ref a1)] [(.ref a1)])) rfl rfl (hb hby d11_1)
  obtain ⟨fs, hr, hrun, hended, hW, hsame⟩ := X3.leave (v := some (.long w2)) (fun h => by rw [Bd.returns] at h; cases h)
  refine ⟨_, _, pre0 _ ?_, hrun, hended, _, _, rfl, ?_, ⟨_, rfl⟩, hW, hsame.mono (by decide) (by decide)⟩
  · show Steps p.tables e below (s₁.setTop (mkF m 0 #[.val (.ref a1)] [])) _
    refine XS.aloadN X0.here hx rfl (hb hby d11_0) rfl rfl ?_
    show Steps p.tables e below (s₁.setTop (mkF m 1 #[.val (.ref a1)] [(.ref a1)])) _
    refine st3 _ ?_
    show Steps p.tables e below (T3.setTop (mkF m 4 #[.val (.ref a1)] [(.long w2)])) _
    jvm_step X3.here [X3.here.top, hx, (hb hby d11_4), X3.method', Bd.returns, narrow]
    first | (intro acts; rw [hr _ acts rfl rfl rfl]) | rw [hr _ _ rfl rfl rfl]
    exact Steps.refl _
  · show Q11 Z a1 w2 h0 n0 _ T3.heap _
    rw [e3]
    exact ⟨rfl, N0, rfl⟩

theorem d12_0 : decode prog_92_method_10_code 0 = .ok (.aload_n 0, 1) := by decide +kernel
theorem d12_1 : decode prog_92_method_10_code 1 = .ok (.getfield 25, 3) := by decide +kernel
theorem d12_4 : decode prog_92_method_10_code 4 = .ok (.lreturn, 1) := by decide +kernel
theorem pn_12 : plainName "com/example/vestry/vestry/rules/Allocated" = true := by first | (simp [plainName, overriddenIn]; done) | decide +kernel
theorem ef_12 (m : MethodId) (x0 : Addr) : entryFrame m #[(.ref x0)] 1 = mkF m 0 #[.val (.ref x0)] [] := by first | (simp [entryFrame, mkF, argsToLocals, Value.category]; done) | rfl
def Q12 (Z : State) (a1 : Addr) (w2 : Int64) (h0 : Heap) (n0 : Nat) (v : Option Value) (h : Heap) (L : List Loc) : Prop := v = some (.long w2) ∧ Fr n0 L ∧ h = h0
set_option maxRecDepth 65536 in
set_option maxHeartbeats 40000000 in
theorem rm12 (l : Launch) (Z : State) (a0 : Array Value) (hw : ∀ d ∈ tables_1, d.before a0 Z = true) (ws : List Jvm.Cond) (a1 : Addr) (w2 : Int64) (h0 : Heap) (n0 : Nat) (Z0 : n0 ≤ h0.size) (F_match_a1 : Fld Z h0 a1 "com/example/vestry/vestry/rules/Allocated" "match" "J" (.long w2)) :
    MetFree l (⟨"com/example/vestry/vestry/rules/Allocated", "match", "()J"⟩ : MethodName) (head1 (Jvm.Cond.code (⟨"com/example/vestry/vestry/rules/Allocated", "match", "()J"⟩ : MethodName) prog_92_method_10_code 1 (some .long) :: ws) ({ frames := 0, cells := 0, slots := 0, locals := 0 } : Room)) (fun a U => a = #[(.ref a1)] ∧ Z.Warmed39 U.vm ∧ U.heap = h0) (fun _ _ _ _ _ => True) (fun _ U o U' => ∃ v L, o = .returned v ∧ Q12 Z a1 w2 h0 n0 v U'.heap L ∧ FrameEnd U o U' L ({ frames := 0, cells := 0, slots := 0, locals := 0 } : Room).cells ({ frames := 0, cells := 0, slots := 0, locals := 0 } : Room).slots) := by
  refine MetFree.of_bodySF (plainFor_of_name pn_12) hisR ?_
  intro p e s m args below meth c s₁ Bd hml0 hP hK
  obtain ⟨rfl, hZ, hh⟩ := hP
  have hx := Bd.exec
  have hby := Bd.bytes
  have hml : c.maxLocals = 1 := hml0
  have hown : s.vm.findClass "com/example/vestry/vestry/rules/Allocated" = some m.cls := findClass_of_methodNamed Bd.named
  have hnm := (name_of_methodNamed Bd.named Bd.method).1
  have X0 : Stand p l e ({ frames := 0, cells := 0, slots := 0, locals := 0 } : Room) s m #[(.ref a1)] below meth c s₁ [] 0 0 := Stand.of_body Bd
  have e0 : s₁.heap = h0 := by rw [← hh, Bd.state]; rfl
  have N0 := Fr.nil n0
  have pre0 : ∀ t, Steps p.tables e below (s₁.setTop (mkF m 0 #[.val (.ref a1)] [])) t → Steps p.tables e below (s₁.setTop (entryFrame m #[(.ref a1)] 1)) t := fun t k => castTop (ef_12 m a1) k
  obtain ⟨T3, X3, e3, st3⟩ := getF X0 hx hZ hown (host := "") (Or.inl (hw _ (List.mem_of_getElem? (i := 47) rfl))) Via.refl e0 F_match_a1 (g := (mkF m 1 #[.val (.ref a1)] [(.ref a1)])) rfl rfl (hb hby d12_1)
  obtain ⟨fs, hr, hrun, hended, hW, hsame⟩ := X3.leave (v := some (.long w2)) (fun h => by rw [Bd.returns] at h; cases h)
  refine ⟨_, _, pre0 _ ?_, hrun, hended, _, _, rfl, ?_, ⟨_, rfl⟩, hW, hsame.mono (by decide) (by decide)⟩
  · show Steps p.tables e below (s₁.setTop (mkF m 0 #[.val (.ref a1)] [])) _
    refine XS.aloadN X0.here hx rfl (hb hby d12_0) rfl rfl ?_
    show Steps p.tables e below (s₁.setTop (mkF m 1 #[.val (.ref a1)] [(.ref a1)])) _
    refine st3 _ ?_
    show Steps p.tables e below (T3.setTop (mkF m 4 #[.val (.ref a1)] [(.long w2)])) _
    jvm_step X3.here [X3.here.top, hx, (hb hby d12_4), X3.method', Bd.returns, narrow]
    first | (intro acts; rw [hr _ acts rfl rfl rfl]) | rw [hr _ _ rfl rfl rfl]
    exact Steps.refl _
  · show Q12 Z a1 w2 h0 n0 _ T3.heap _
    rw [e3]
    exact ⟨rfl, N0, rfl⟩

theorem d16_0 : decode prog_92_method_11_code 0 = .ok (.aload_n 0, 1) := by decide +kernel
theorem d16_1 : decode prog_92_method_11_code 1 = .ok (.getfield 28, 3) := by decide +kernel
theorem d16_4 : decode prog_92_method_11_code 4 = .ok (.lreturn, 1) := by decide +kernel
theorem pn_16 : plainName "com/example/vestry/vestry/rules/Allocated" = true := by first | (simp [plainName, overriddenIn]; done) | decide +kernel
theorem ef_16 (m : MethodId) (x0 : Addr) : entryFrame m #[(.ref x0)] 1 = mkF m 0 #[.val (.ref x0)] [] := by first | (simp [entryFrame, mkF, argsToLocals, Value.category]; done) | rfl
def Q16 (Z : State) (a1 : Addr) (w2 : Int64) (h0 : Heap) (n0 : Nat) (v : Option Value) (h : Heap) (L : List Loc) : Prop := v = some (.long w2) ∧ Fr n0 L ∧ h = h0
set_option maxRecDepth 65536 in
set_option maxHeartbeats 40000000 in
theorem rm16 (l : Launch) (Z : State) (a0 : Array Value) (hw : ∀ d ∈ tables_1, d.before a0 Z = true) (ws : List Jvm.Cond) (a1 : Addr) (w2 : Int64) (h0 : Heap) (n0 : Nat) (Z0 : n0 ≤ h0.size) (F_profitSharing_a1 : Fld Z h0 a1 "com/example/vestry/vestry/rules/Allocated" "profitSharing" "J" (.long w2)) :
    MetFree l (⟨"com/example/vestry/vestry/rules/Allocated", "profitSharing", "()J"⟩ : MethodName) (head1 (Jvm.Cond.code (⟨"com/example/vestry/vestry/rules/Allocated", "profitSharing", "()J"⟩ : MethodName) prog_92_method_11_code 1 (some .long) :: ws) ({ frames := 0, cells := 0, slots := 0, locals := 0 } : Room)) (fun a U => a = #[(.ref a1)] ∧ Z.Warmed39 U.vm ∧ U.heap = h0) (fun _ _ _ _ _ => True) (fun _ U o U' => ∃ v L, o = .returned v ∧ Q16 Z a1 w2 h0 n0 v U'.heap L ∧ FrameEnd U o U' L ({ frames := 0, cells := 0, slots := 0, locals := 0 } : Room).cells ({ frames := 0, cells := 0, slots := 0, locals := 0 } : Room).slots) := by
  refine MetFree.of_bodySF (plainFor_of_name pn_16) hisR ?_
  intro p e s m args below meth c s₁ Bd hml0 hP hK
  obtain ⟨rfl, hZ, hh⟩ := hP
  have hx := Bd.exec
  have hby := Bd.bytes
  have hml : c.maxLocals = 1 := hml0
  have hown : s.vm.findClass "com/example/vestry/vestry/rules/Allocated" = some m.cls := findClass_of_methodNamed Bd.named
  have hnm := (name_of_methodNamed Bd.named Bd.method).1
  have X0 : Stand p l e ({ frames := 0, cells := 0, slots := 0, locals := 0 } : Room) s m #[(.ref a1)] below meth c s₁ [] 0 0 := Stand.of_body Bd
  have e0 : s₁.heap = h0 := by rw [← hh, Bd.state]; rfl
  have N0 := Fr.nil n0
  have pre0 : ∀ t, Steps p.tables e below (s₁.setTop (mkF m 0 #[.val (.ref a1)] [])) t → Steps p.tables e below (s₁.setTop (entryFrame m #[(.ref a1)] 1)) t := fun t k => castTop (ef_16 m a1) k
  obtain ⟨T3, X3, e3, st3⟩ := getF X0 hx hZ hown (host := "") (Or.inl (hw _ (List.mem_of_getElem? (i := 49) rfl))) Via.refl e0 F_profitSharing_a1 (g := (mkF m 1 #[.val (.ref a1)] [(.ref a1)])) rfl rfl (hb hby d16_1)
  obtain ⟨fs, hr, hrun, hended, hW, hsame⟩ := X3.leave (v := some (.long w2)) (fun h => by rw [Bd.returns] at h; cases h)
  refine ⟨_, _, pre0 _ ?_, hrun, hended, _, _, rfl, ?_, ⟨_, rfl⟩, hW, hsame.mono (by decide) (by decide)⟩
  · show Steps p.tables e below (s₁.setTop (mkF m 0 #[.val (.ref a1)] [])) _
    refine XS.aloadN X0.here hx rfl (hb hby d16_0) rfl rfl ?_
    show Steps p.tables e below (s₁.setTop (mkF m 1 #[.val (.ref a1)] [(.ref a1)])) _
    refine st3 _ ?_
    show Steps p.tables e below (T3.setTop (mkF m 4 #[.val (.ref a1)] [(.long w2)])) _
    jvm_step X3.here [X3.here.top, hx, (hb hby d16_4), X3.method', Bd.returns, narrow]
    first | (intro acts; rw [hr _ acts rfl rfl rfl]) | rw [hr _ _ rfl rfl rfl]
    exact Steps.refl _
  · show Q16 Z a1 w2 h0 n0 _ T3.heap _
    rw [e3]
    exact ⟨rfl, N0, rfl⟩

theorem d1_0 : decode prog_95_method_1_code 0 = .ok (.aload_n 0, 1) := by decide +kernel
theorem d1_1 : decode prog_95_method_1_code 1 = .ok (.invokespecial 1, 3) := by decide +kernel
theorem d1_4 : decode prog_95_method_1_code 4 = .ok (.aload_n 0, 1) := by decide +kernel
theorem d1_5 : decode prog_95_method_1_code 5 = .ok (.aload_n 1, 1) := by decide +kernel
theorem d1_6 : decode prog_95_method_1_code 6 = .ok (.putfield 7, 3) := by decide +kernel
theorem d1_9 : decode prog_95_method_1_code 9 = .ok (.aload_n 0, 1) := by decide +kernel
theorem d1_10 : decode prog_95_method_1_code 10 = .ok (.iload_n 2, 1) := by decide +kernel
theorem d1_11 : decode prog_95_method_1_code 11 = .ok (.bipush 7, 2) := by decide +kernel
theorem d1_13 : decode prog_95_method_1_code 13 = .ok (.invokestatic 13, 3) := by decide +kernel
theorem d1_16 : decode prog_95_method_1_code 16 = .ok (.newarray .long, 2) := by decide +kernel
theorem d1_18 : decode prog_95_method_1_code 18 = .ok (.putfield 19, 3) := by decide +kernel
theorem d1_21 : decode prog_95_method_1_code 21 = .ok (.return_, 1) := by decide +kernel
theorem pn_1 : plainName "com/example/vestry/vestry/rules/Allocations" = true := by first | (simp [plainName, overriddenIn]; done) | decide +kernel
theorem pd_1_2 : parseMethodDescriptor "(II)I" = some ⟨[.int, .int], some .int⟩ := by decide +kernel
theorem ef_1 (m : MethodId) (x0 : Addr) (x1 : Addr) (x2 : Int32) : entryFrame m #[(.ref x0), (.ref x1), (.int x2)] 3 = mkF m 0 #[.val (.ref x0), .val (.ref x1), .val (.int x2)] [] := by first | (simp [entryFrame, mkF, argsToLocals, Value.category]; done) | rfl
def Q1 (Z : State) (a1 : Addr) (a2 : Addr) (u_participants_a1 : Value) (u_cents_a1 : Value) (h0 : Heap) (n0 : Nat) (v : Option Value) (h : Heap) (L : List Loc) : Prop := v = none ∧ Fr n0 L ∧ Keep h0 h [a1] ∧ Exa Z h a1 "com/example/vestry/vestry/rules/Allocations" ∧ ∃ b : Addr, Fld Z h a1 "com/example/vestry/vestry/rules/Allocations" "cents" "[J" (.ref b) ∧ own_A Z h b (fun _ => 0) ∧ h0.size ≤ b
set_option maxRecDepth 65536 in
set_option maxHeartbeats 40000000 in
theorem rm1 (l : Launch) (Z : State) (a0 : Array Value) (hw : ∀ d ∈ tables_1, d.before a0 Z = true) (ws : List Jvm.Cond) (a1 : Addr) (a2 : Addr) (u_participants_a1 : Value) (u_cents_a1 : Value) (h0 : Heap) (n0 : Nat) (Z0 : n0 ≤ h0.size) (E_a1 : Exa Z h0 a1 "com/example/vestry/vestry/rules/Allocations") (F_participants_a1 : Fld Z h0 a1 "com/example/vestry/vestry/rules/Allocations" "participants" "[I" u_participants_a1) (g_a1 : n0 ≤ a1) (F_cents_a1 : Fld Z h0 a1 "com/example/vestry/vestry/rules/Allocations" "cents" "[J" u_cents_a1) :
    MetFree l (⟨"com/example/vestry/vestry/rules/Allocations", "<init>", "([II)V"⟩ : MethodName) (head1 (Jvm.Cond.code (⟨"com/example/vestry/vestry/rules/Allocations", "<init>", "([II)V"⟩ : MethodName) prog_95_method_1_code 3 none :: ws) ({ frames := 1, cells := 1, slots := 21, locals := 16 } : Room)) (fun a U => a = #[(.ref a1), (.ref a2), (.int (3 : Int32))] ∧ Z.Warmed39 U.vm ∧ U.heap = h0) (fun _ _ _ _ _ => True) (fun _ U o U' => ∃ v L, o = .returned v ∧ Q1 Z a1 a2 u_participants_a1 u_cents_a1 h0 n0 v U'.heap L ∧ FrameEnd U o U' L ({ frames := 1, cells := 1, slots := 21, locals := 16 } : Room).cells ({ frames := 1, cells := 1, slots := 21, locals := 16 } : Room).slots) := by
  refine MetFree.of_bodySF (plainFor_of_name pn_1) hisR ?_
  intro p e s m args below meth c s₁ Bd hml0 hP hK
  obtain ⟨rfl, hZ, hh⟩ := hP
  have hx := Bd.exec
  have hby := Bd.bytes
  have hml : c.maxLocals = 3 := hml0
  have hown : s.vm.findClass "com/example/vestry/vestry/rules/Allocations" = some m.cls := findClass_of_methodNamed Bd.named
  have hnm := (name_of_methodNamed Bd.named Bd.method).1
  have X0 : Stand p l e ({ frames := 1, cells := 1, slots := 21, locals := 16 } : Room) s m #[(.ref a1), (.ref a2), (.int (3 : Int32))] below meth c s₁ [] 0 0 := Stand.of_body Bd
  have e0 : s₁.heap = h0 := by rw [← hh, Bd.state]; rfl
  have N0 := Fr.nil n0
  have pre0 : ∀ t, Steps p.tables e below (s₁.setTop (mkF m 0 #[.val (.ref a1), .val (.ref a2), .val (.int (3 : Int32))] [])) t → Steps p.tables e below (s₁.setTop (entryFrame m #[(.ref a1), (.ref a2), (.int (3 : Int32))] 3)) t := fun t k => castTop (ef_1 m a1 a2 (3 : Int32)) k
  obtain ⟨T4, X4, e4, st4⟩ := initO X0 hx hZ hown (hw _ (List.mem_of_getElem? (i := 8) rfl)) (hw _ (List.mem_of_getElem? (i := 9) rfl)) (hw _ (List.mem_of_getElem? (i := 10) rfl)) e0 (g := (mkF m 1 #[.val (.ref a1), .val (.ref a2), .val (.int (3 : Int32))] [(.ref a1)])) rfl (by rw [hml]; rfl) rfl (hb hby d1_1) (by decide) (W := 0) (by show 2 * 0 + _ ≤ _; exact Nat.le_of_eq rfl) (by decide)
  obtain ⟨T5, h5, X5, e5, W5, st5⟩ := putF X4 hx hZ hown (host := "") (Or.inl (hw _ (List.mem_of_getElem? (i := 11) rfl))) Via.refl e4 F_participants_a1 E_a1 (Or.inr ⟨(hw _ (List.mem_of_getElem? (i := 12) rfl)), rfl, hnm⟩) (hw _ (List.mem_of_getElem? (i := 2) rfl)) (ty := (.array .int)) (by decide) rfl rfl (g := (mkF m 6 #[.val (.ref a1), .val (.ref a2), .val (.int (3 : Int32))] [(.ref a2), (.ref a1)])) rfl rfl (hb hby d1_6)
  have Fw5 := F_participants_a1.same W5
  have K5 : Keep h0 h5 [a1] := (Keep.refl h0 [a1]).wr W5 (Or.inl (List.mem_of_getElem? (i := 0) rfl))
  have N5 := Fr.snoc X5 N0 g_a1
  obtain ⟨_, _, ⟨T6, L6, k6, n6⟩, -, X6, ⟨Lc6, hQ6, l6, y6, z6⟩, st6⟩ := Jvm.LawKit.callS X5 hx (y := (⟨"java/lang/Math", "multiplyExact", "(II)I"⟩ : MethodName)) hown (mvT hZ (hw _ (List.mem_of_getElem? (i := 13) rfl))) (mvT hZ (hw _ (List.mem_of_getElem? (i := 14) rfl))) (mvT hZ (hw _ (List.mem_of_getElem? (i := 15) rfl))) (mvT hZ (hw _ (List.mem_of_getElem? (i := 16) rfl))) (by decide) (backOf (W := 1) (rm3 l Z a0 hw [] (3 : Int32) (7 : Int32) (21 : Int32) (by decide) h5 n0 (Nat.le_trans Z0 (Keep.of_wr W5).1) (by decide)) hZ (hw _ (List.mem_of_getElem? (i := 16) rfl)) (hw _ (List.mem_of_getElem? (i := 15) rfl)) (by decide) (by decide)) (g := (mkF m 13 #[.val (.ref a1), .val (.ref a2), .val (.int (3 : Int32))] [(.int (7 : Int32)), (.int (3 : Int32)), (.ref a1)])) rfl (by rw [hml]; rfl) (argsL := [(.int (3 : Int32)), (.int (7 : Int32))]) (rest := [(.ref a1)]) (lenOf pd_1_2 rfl) rfl (by show 2 * 0 + _ ≤ _; exact Nat.le_of_eq rfl) (hb hby d1_13) (fun _ _ => ⟨rfl, e5, (by decide : 0 + 0 ≤ _), (by decide : 0 + 0 ≤ _)⟩)
  dsimp only [Pt.U, Pt.locs, Pt.cells, Pt.slots] at X6 l6 y6 z6 st6 hQ6
  subst l6 y6 z6
  obtain ⟨rfl, N6q, e6⟩ := hQ6
  have N6 := Fr.app N5 N6q
  obtain ⟨T7, h7, k7, X7, e7, E7, A7, st7⟩ := newP X6 hx hZ (hw _ (List.mem_of_getElem? (i := 17) rfl)) e6 (g := (mkF m 16 #[.val (.ref a1), .val (.ref a2), .val (.int (3 : Int32))] [(.int (21 : Int32)), (.ref a1)])) rfl (hb hby d1_16) rfl (by decide) (cap := 21) (by decide) (by decide) (by decide) (by decide)
  obtain ⟨b7, g7⟩ : ∃ z, z = h5.size := ⟨_, rfl⟩
  rw [← g7] at A7 st7
  have g_b7 : n0 ≤ b7 := Nat.le_trans (Nat.le_trans Z0 (Keep.of_wr W5).1) (Nat.le_of_eq g7.symm)
  have sz_b7 : h0.size ≤ b7 := (Nat.le_trans K5.1 (Nat.le_of_eq g7.symm))
  have K7 : Keep h0 h7 [a1] := K5.ext E7
  obtain ⟨T8, h8, X8, e8, W8, st8⟩ := putF X7 hx hZ hown (host := "") (Or.inl (hw _ (List.mem_of_getElem? (i := 18) rfl))) Via.refl e7 (((F_cents_a1.other W5 (Or.inr (slot_ne (Or.inr (hw _ (List.mem_of_getElem? (i := 19) rfl))) (Or.inr (hw _ (List.mem_of_getElem? (i := 12) rfl))) (by decide) (t := (.array .long)) (t' := (.array .int)) (by decide) (by decide))))).ext E7) (((E_a1.wr W5)).ext E7) (Or.inr ⟨(hw _ (List.mem_of_getElem? (i := 19) rfl)), rfl, hnm⟩) (hw _ (List.mem_of_getElem? (i := 2) rfl)) (ty := (.array .long)) (by decide) rfl rfl (g := (mkF m 18 #[.val (.ref a1), .val (.ref a2), .val (.int (3 : Int32))] [(.ref b7), (.ref a1)])) rfl rfl (hb hby d1_18)
  have Fw8 := (((F_cents_a1.other W5 (Or.inr (slot_ne (Or.inr (hw _ (List.mem_of_getElem? (i := 19) rfl))) (Or.inr (hw _ (List.mem_of_getElem? (i := 12) rfl))) (by decide) (t := (.array .long)) (t' := (.array .int)) (by decide) (by decide))))).ext E7).same W8
  have K8 : Keep h0 h8 [a1] := K7.wr W8 (Or.inl (List.mem_of_getElem? (i := 0) rfl))
  have N8 := Fr.snoc X8 N6 g_a1
  obtain ⟨fs, hr, hrun, hended, hW, hsame⟩ := X8.leave (v := none) (fun _ => rfl)
  refine ⟨_, _, pre0 _ ?_, hrun, hended, _, _, rfl, ?_, ⟨_, rfl⟩, hW, hsame.mono (by decide) (by decide)⟩
  · show Steps p.tables e below (s₁.setTop (mkF m 0 #[.val (.ref a1), .val (.ref a2), .val (.int (3 : Int32))] [])) _
    refine XS.aloadN X0.here hx rfl (hb hby d1_0) rfl rfl ?_
    show Steps p.tables e below (s₁.setTop (mkF m 1 #[.val (.ref a1), .val (.ref a2), .val (.int (3 : Int32))] [(.ref a1)])) _
    refine st4 _ ?_
    show Steps p.tables e below (T4.setTop (mkF m 4 #[.val (.ref a1), .val (.ref a2), .val (.int (3 : Int32))] [])) _
    refine XS.aloadN X4.here hx rfl (hb hby d1_4) rfl rfl ?_
    show Steps p.tables e below (T4.setTop (mkF m 5 #[.val (.ref a1), .val (.ref a2), .val (.int (3 : Int32))] [(.ref a1)])) _
    refine XS.aloadN X4.here hx rfl (hb hby d1_5) rfl rfl ?_
    show Steps p.tables e below (T4.setTop (mkF m 6 #[.val (.ref a1), .val (.ref a2), .val (.int (3 : Int32))] [(.ref a2), (.ref a1)])) _
    refine st5 _ ?_
    show Steps p.tables e below (T5.setTop (mkF m 9 #[.val (.ref a1), .val (.ref a2), .val (.int (3 : Int32))] [])) _
    refine XS.aloadN X5.here hx rfl (hb hby d1_9) rfl rfl ?_
    show Steps p.tables e below (T5.setTop (mkF m 10 #[.val (.ref a1), .val (.ref a2), .val (.int (3 : Int32))] [(.ref a1)])) _
    refine XS.iloadN X5.here hx rfl (hb hby d1_10) rfl ?_
    show Steps p.tables e below (T5.setTop (mkF m 11 #[.val (.ref a1), .val (.ref a2), .val (.int (3 : Int32))] [(.int (3 : Int32)), (.ref a1)])) _
    refine XS.bipush X5.here hx rfl (hb hby d1_11) ?_
    show Steps p.tables e below (T5.setTop (mkF m 13 #[.val (.ref a1), .val (.ref a2), .val (.int (3 : Int32))] [(.int (7 : Int32)), (.int (3 : Int32)), (.ref a1)])) _
    refine st6 _ ?_
    show Steps p.tables e below (T6.setTop (mkF m 16 #[.val (.ref a1), .val (.ref a2), .val (.int (3 : Int32))] [(.int (21 : Int32)), (.ref a1)])) _
    refine st7 _ ?_
    show Steps p.tables e below (T7.setTop (mkF m 18 #[.val (.ref a1), .val (.ref a2), .val (.int (3 : Int32))] [(.ref b7), (.ref a1)])) _
    refine st8 _ ?_
    show Steps p.tables e below (T8.setTop (mkF m 21 #[.val (.ref a1), .val (.ref a2), .val (.int (3 : Int32))] [])) _
    exact X8.returnOut hx Bd.returns (hb hby d1_21) hr
  · show Q1 Z a1 a2 u_participants_a1 u_cents_a1 h0 n0 _ T8.heap _
    rw [e8]
    exact ⟨rfl, N8, K8, (((E_a1.wr W5).ext E7).wr W8), b7, Fw8, (own_new A7).other W8 (Nat.ne_of_gt (Nat.lt_of_lt_of_le E_a1.lt sz_b7)), sz_b7⟩

theorem d6_0 : decode prog_95_method_4_code 0 = .ok (.iload_n 1, 1) := by decide +kernel
theorem d6_1 : decode prog_95_method_4_code 1 = .ok (.bipush 7, 2) := by decide +kernel
theorem d6_3 : decode prog_95_method_4_code 3 = .ok (.imul, 1) := by decide +kernel
theorem d6_4 : decode prog_95_method_4_code 4 = .ok (.istore_n 3, 1) := by decide +kernel
theorem d6_5 : decode prog_95_method_4_code 5 = .ok (.aload_n 0, 1) := by decide +kernel
theorem d6_6 : decode prog_95_method_4_code 6 = .ok (.getfield 19, 3) := by decide +kernel
theorem d6_9 : decode prog_95_method_4_code 9 = .ok (.iload_n 3, 1) := by decide +kernel
theorem d6_10 : decode prog_95_method_4_code 10 = .ok (.iconst 0, 1) := by decide +kernel
theorem d6_11 : decode prog_95_method_4_code 11 = .ok (.iadd, 1) := by decide +kernel
theorem d6_12 : decode prog_95_method_4_code 12 = .ok (.aload_n 2, 1) := by decide +kernel
theorem d6_13 : decode prog_95_method_4_code 13 = .ok (.invokevirtual 33, 3) := by decide +kernel
theorem d6_16 : decode prog_95_method_4_code 16 = .ok (.lastore, 1) := by decide +kernel
theorem d6_17 : decode prog_95_method_4_code 17 = .ok (.aload_n 0, 1) := by decide +kernel
theorem d6_18 : decode prog_95_method_4_code 18 = .ok (.getfield 19, 3) := by decide +kernel
theorem d6_21 : decode prog_95_method_4_code 21 = .ok (.iload_n 3, 1) := by decide +kernel
theorem d6_22 : decode prog_95_method_4_code 22 = .ok (.iconst 1, 1) := by decide +kernel
theorem d6_23 : decode prog_95_method_4_code 23 = .ok (.iadd, 1) := by decide +kernel
theorem d6_24 : decode prog_95_method_4_code 24 = .ok (.aload_n 2, 1) := by decide +kernel
theorem d6_25 : decode prog_95_method_4_code 25 = .ok (.invokevirtual 37, 3) := by decide +kernel
theorem d6_28 : decode prog_95_method_4_code 28 = .ok (.lastore, 1) := by decide +kernel
theorem d6_29 : decode prog_95_method_4_code 29 = .ok (.aload_n 0, 1) := by decide +kernel
theorem d6_30 : decode prog_95_method_4_code 30 = .ok (.getfield 19, 3) := by decide +kernel
theorem d6_33 : decode prog_95_method_4_code 33 = .ok (.iload_n 3, 1) := by decide +kernel
theorem d6_34 : decode prog_95_method_4_code 34 = .ok (.iconst 2, 1) := by decide +kernel
theorem d6_35 : decode prog_95_method_4_code 35 = .ok (.iadd, 1) := by decide +kernel
theorem d6_36 : decode prog_95_method_4_code 36 = .ok (.aload_n 2, 1) := by decide +kernel
theorem d6_37 : decode prog_95_method_4_code 37 = .ok (.invokevirtual 40, 3) := by decide +kernel
theorem d6_40 : decode prog_95_method_4_code 40 = .ok (.lastore, 1) := by decide +kernel
theorem d6_41 : decode prog_95_method_4_code 41 = .ok (.aload_n 0, 1) := by decide +kernel
theorem d6_42 : decode prog_95_method_4_code 42 = .ok (.getfield 19, 3) := by decide +kernel
theorem d6_45 : decode prog_95_method_4_code 45 = .ok (.iload_n 3, 1) := by decide +kernel
theorem d6_46 : decode prog_95_method_4_code 46 = .ok (.iconst 3, 1) := by decide +kernel
theorem d6_47 : decode prog_95_method_4_code 47 = .ok (.iadd, 1) := by decide +kernel
theorem d6_48 : decode prog_95_method_4_code 48 = .ok (.aload_n 2, 1) := by decide +kernel
theorem d6_49 : decode prog_95_method_4_code 49 = .ok (.invokevirtual 43, 3) := by decide +kernel
theorem d6_52 : decode prog_95_method_4_code 52 = .ok (.lastore, 1) := by decide +kernel
theorem d6_53 : decode prog_95_method_4_code 53 = .ok (.aload_n 0, 1) := by decide +kernel
theorem d6_54 : decode prog_95_method_4_code 54 = .ok (.getfield 19, 3) := by decide +kernel
theorem d6_57 : decode prog_95_method_4_code 57 = .ok (.iload_n 3, 1) := by decide +kernel
theorem d6_58 : decode prog_95_method_4_code 58 = .ok (.iconst 4, 1) := by decide +kernel
theorem d6_59 : decode prog_95_method_4_code 59 = .ok (.iadd, 1) := by decide +kernel
theorem d6_60 : decode prog_95_method_4_code 60 = .ok (.aload_n 2, 1) := by decide +kernel
theorem d6_61 : decode prog_95_method_4_code 61 = .ok (.invokevirtual 46, 3) := by decide +kernel
theorem d6_64 : decode prog_95_method_4_code 64 = .ok (.lastore, 1) := by decide +kernel
theorem d6_65 : decode prog_95_method_4_code 65 = .ok (.aload_n 0, 1) := by decide +kernel
theorem d6_66 : decode prog_95_method_4_code 66 = .ok (.getfield 19, 3) := by decide +kernel
theorem d6_69 : decode prog_95_method_4_code 69 = .ok (.iload_n 3, 1) := by decide +kernel
theorem d6_70 : decode prog_95_method_4_code 70 = .ok (.iconst 5, 1) := by decide +kernel
theorem d6_71 : decode prog_95_method_4_code 71 = .ok (.iadd, 1) := by decide +kernel
theorem d6_72 : decode prog_95_method_4_code 72 = .ok (.aload_n 2, 1) := by decide +kernel
theorem d6_73 : decode prog_95_method_4_code 73 = .ok (.invokevirtual 49, 3) := by decide +kernel
theorem d6_76 : decode prog_95_method_4_code 76 = .ok (.lastore, 1) := by decide +kernel
theorem d6_77 : decode prog_95_method_4_code 77 = .ok (.return_, 1) := by decide +kernel
theorem pn_6 : plainName "com/example/vestry/vestry/rules/Allocations" = true := by first | (simp [plainName, overriddenIn]; done) | decide +kernel
theorem pd_6_5 : parseMethodDescriptor "()J" = some ⟨[], some .long⟩ := by decide +kernel
theorem ef_6 (m : MethodId) (x0 : Addr) (x1 : Int32) (x2 : Addr) : entryFrame m #[(.ref x0), (.int x1), (.ref x2)] 4 = mkF m 0 #[.val (.ref x0), .val (.int x1), .val (.ref x2), .unset] [] := by first | (simp [entryFrame, mkF, argsToLocals, Value.category]; done) | rfl
set_option maxRecDepth 65536 in
set_option maxHeartbeats 40000000 in
theorem rm6 (l : Launch) (Z : State) (a0 : Array Value) (hw : ∀ d ∈ tables_1, d.before a0 Z = true) (ws : List Jvm.Cond) (a1 : Addr) (pn : Nat) (hpn : pn < 3) (a3 : Addr) (w4 : Addr) (f : Nat → Int64) (c0 c1 c2 c3 c4 c5 : Int64) (h0 : Heap) (n0 : Nat) (Z0 : n0 ≤ h0.size) (F_cents_a1 : Fld Z h0 a1 "com/example/vestry/vestry/rules/Allocations" "cents" "[J" (.ref w4)) (A_w4 : own_A Z h0 w4 f) (g_w4 : n0 ≤ w4) (ne1 : a1 ≠ w4) (ne3 : a3 ≠ w4) (E_a3 : Exa Z h0 a3 "com/example/vestry/vestry/rules/Allocated") (G0_0 : Fld Z h0 a3 "com/example/vestry/vestry/rules/Allocated" "compensation" "J" (.long c0)) (G1_0 : Fld Z h0 a3 "com/example/vestry/vestry/rules/Allocated" "cappedCompensation" "J" (.long c1)) (G2_0 : Fld Z h0 a3 "com/example/vestry/vestry/rules/Allocated" "deferrals" "J" (.long c2)) (G3_0 : Fld Z h0 a3 "com/example/vestry/vestry/rules/Allocated" "catchUp" "J" (.long c3)) (G4_0 : Fld Z h0 a3 "com/example/vestry/vestry/rules/Allocated" "excessDeferrals" "J" (.long c4)) (G5_0 : Fld Z h0 a3 "com/example/vestry/vestry/rules/Allocated" "match" "J" (.long c5)) :
    MetFree l (⟨"com/example/vestry/vestry/rules/Allocations", "set", "(ILcom/example/vestry/vestry/rules/Allocated;)V"⟩ : MethodName) (head1 (Jvm.Cond.code (⟨"com/example/vestry/vestry/rules/Allocations", "set", "(ILcom/example/vestry/vestry/rules/Allocated;)V"⟩ : MethodName) prog_95_method_4_code 4 none :: ws) ({ frames := 1, cells := 0, slots := 0, locals := 14 } : Room)) (fun a U => a = #[(.ref a1), (.int (Int32.ofNat pn)), (.ref a3)] ∧ Z.Warmed39 U.vm ∧ U.heap = h0) (fun _ _ _ _ _ => True) (fun _ U o U' => ∃ v L, o = .returned v ∧ QA Z w4 (own_set f pn c0 c1 c2 c3 c4 c5) h0 n0 v U'.heap L ∧ FrameEnd U o U' L ({ frames := 1, cells := 0, slots := 0, locals := 14 } : Room).cells ({ frames := 1, cells := 0, slots := 0, locals := 14 } : Room).slots) := by
  refine MetFree.of_bodySF (plainFor_of_name pn_6) hisR ?_
  intro p e s m args below meth c s₁ Bd hml0 hP hK
  obtain ⟨rfl, hZ, hh⟩ := hP
  have hx := Bd.exec
  have hby := Bd.bytes
  have hml : c.maxLocals = 4 := hml0
  have hown : s.vm.findClass "com/example/vestry/vestry/rules/Allocations" = some m.cls := findClass_of_methodNamed Bd.named
  have hnm := (name_of_methodNamed Bd.named Bd.method).1
  have X0 : Stand p l e ({ frames := 1, cells := 0, slots := 0, locals := 14 } : Room) s m #[(.ref a1), (.int (Int32.ofNat pn)), (.ref a3)] below meth c s₁ [] 0 0 := Stand.of_body Bd
  have e0 : s₁.heap = h0 := by rw [← hh, Bd.state]; rfl
  have N0 := Fr.nil n0
  have pre0 : ∀ t, Steps p.tables e below (s₁.setTop (mkF m 0 #[.val (.ref a1), .val (.int (Int32.ofNat pn)), .val (.ref a3), .unset] [])) t → Steps p.tables e below (s₁.setTop (entryFrame m #[(.ref a1), (.int (Int32.ofNat pn)), (.ref a3)] 4)) t := fun t k => castTop (ef_6 m a1 (Int32.ofNat pn) a3) k
  obtain ⟨T5, X5, e5, st5⟩ := getF X0 hx hZ hown (host := "") (Or.inl (hw _ (List.mem_of_getElem? (i := 18) rfl))) Via.refl e0 F_cents_a1 (g := (mkF m 6 #[.val (.ref a1), .val (.int (Int32.ofNat pn)), .val (.ref a3), .val (.int ((Int32.ofNat pn) * (7 : Int32)))] [(.ref a1)])) rfl rfl (hb hby d6_6)
  obtain ⟨cq6, kq6, q6a, q6b, q6c⟩ := isOf hZ e5 E_a3
  obtain ⟨_, _, ⟨T6, L6, k6, n6⟩, -, X6, ⟨Lc6, hQ6, l6, y6, z6⟩, st6⟩ := X5.virtualBack hx (y := (⟨"com/example/vestry/vestry/rules/Allocated", "compensation", "()J"⟩ : MethodName)) (z := (⟨"com/example/vestry/vestry/rules/Allocated", "compensation", "()J"⟩ : MethodName)) hown (mvT hZ (hw _ (List.mem_of_getElem? (i := 56) rfl))) (mvT hZ (hw _ (List.mem_of_getElem? (i := 57) rfl))) (notFace_of_selects (args := #[]) (mvT hZ (hw _ (List.mem_of_getElem? (i := 59) rfl)))) (mvT hZ (hw _ (List.mem_of_getElem? (i := 59) rfl))) (mvT hZ (hw _ (List.mem_of_getElem? (i := 58) rfl))) (by decide) (backOf (W := 2) (rm7 l Z a0 hw [] a3 c0 h0 n0 Z0 G0_0) hZ (hw _ (List.mem_of_getElem? (i := 60) rfl)) (hw _ (List.mem_of_getElem? (i := 22) rfl)) (by decide) (by decide)) q6a q6c (g := (mkF m 13 #[.val (.ref a1), .val (.int (Int32.ofNat pn)), .val (.ref a3), .val (.int ((Int32.ofNat pn) * (7 : Int32)))] [(.ref a3), (.int (((Int32.ofNat pn) * (7 : Int32)) + (0 : Int32))), (.ref w4)])) rfl (by rw [hml]; rfl) (Steps.refl _) (argsL := []) (rest := [(.int (((Int32.ofNat pn) * (7 : Int32)) + (0 : Int32))), (.ref w4)]) (lenOf pd_6_5 rfl) rfl (by show 2 * 0 + _ ≤ _; exact Nat.le_of_eq rfl) (hb hby d6_13) (fun _ _ => ⟨rfl, e5, (by decide : 0 + 0 ≤ _), (by decide : 0 + 0 ≤ _)⟩)
  dsimp only [Pt.U, Pt.locs, Pt.cells, Pt.slots] at X6 l6 y6 z6 st6 hQ6
  subst l6 y6 z6
  obtain ⟨rfl, N6q, e6⟩ := hQ6
  have N6 := Fr.app N0 N6q
  obtain ⟨cl_0, Ar_0, S_0, V_0⟩ := A_w4
  have hin16 := own_in (k := 0) hpn (by decide) S_0
  obtain ⟨T7, h7, X7, e7, W7, st7⟩ := stJ X6 hx hZ e6 Ar_0 (j := (((Int32.ofNat pn) * (7 : Int32)) + (0 : Int32))) hin16 (g := (mkF m 16 #[.val (.ref a1), .val (.int (Int32.ofNat pn)), .val (.ref a3), .val (.int ((Int32.ofNat pn) * (7 : Int32)))] [(.long c0), (.int (((Int32.ofNat pn) * (7 : Int32)) + (0 : Int32))), (.ref w4)])) rfl rfl (hb hby d6_16)
  have A_1 : own_A Z h7 w4 _ := own_st Ar_0 S_0 V_0 ((own_ix pn hpn 0 (by decide)).1 ▸ W7)
  have Fc_1 := F_cents_a1.other W7 (Or.inl ne1)
  have Ea_1 := E_a3.wr W7
  have Z_1 : n0 ≤ h7.size := Nat.le_trans Z0 (Keep.of_wr W7).1
  have G1_1 := G1_0.other W7 (Or.inl ne3)
  have G2_1 := G2_0.other W7 (Or.inl ne3)
  have G3_1 := G3_0.other W7 (Or.inl ne3)
  have G4_1 := G4_0.other W7 (Or.inl ne3)
  have G5_1 := G5_0.other W7 (Or.inl ne3)
  have N7 := Fr.snoc X7 N6 g_w4
  have K7 : Keep h0 h7 [w4] := (Keep.refl h0 [w4]).wr W7 (Or.inl (List.mem_of_getElem? (i := 0) rfl))
  obtain ⟨T9, X9, e9, st9⟩ := getF X7 hx hZ hown (host := "") (Or.inl (hw _ (List.mem_of_getElem? (i := 18) rfl))) Via.refl e7 Fc_1 (g := (mkF m 18 #[.val (.ref a1), .val (.int (Int32.ofNat pn)), .val (.ref a3), .val (.int ((Int32.ofNat pn) * (7 : Int32)))] [(.ref a1)])) rfl rfl (hb hby d6_18)
  obtain ⟨cq10, kq10, q10a, q10b, q10c⟩ := isOf hZ e9 Ea_1
  obtain ⟨_, _, ⟨T10, L10, k10, n10⟩, -, X10, ⟨Lc10, hQ10, l10, y10, z10⟩, st10⟩ := X9.virtualBack hx (y := (⟨"com/example/vestry/vestry/rules/Allocated", "cappedCompensation", "()J"⟩ : MethodName)) (z := (⟨"com/example/vestry/vestry/rules/Allocated", "cappedCompensation", "()J"⟩ : MethodName)) hown (mvT hZ (hw _ (List.mem_of_getElem? (i := 61) rfl))) (mvT hZ (hw _ (List.mem_of_getElem? (i := 62) rfl))) (notFace_of_selects (args := #[]) (mvT hZ (hw _ (List.mem_of_getElem? (i := 64) rfl)))) (mvT hZ (hw _ (List.mem_of_getElem? (i := 64) rfl))) (mvT hZ (hw _ (List.mem_of_getElem? (i := 63) rfl))) (by decide) (backOf (W := 2) (rm8 l Z a0 hw [] a3 c1 h7 n0 Z_1 G1_1) hZ (hw _ (List.mem_of_getElem? (i := 65) rfl)) (hw _ (List.mem_of_getElem? (i := 22) rfl)) (by decide) (by decide)) q10a q10c (g := (mkF m 25 #[.val (.ref a1), .val (.int (Int32.ofNat pn)), .val (.ref a3), .val (.int ((Int32.ofNat pn) * (7 : Int32)))] [(.ref a3), (.int (((Int32.ofNat pn) * (7 : Int32)) + (1 : Int32))), (.ref w4)])) rfl (by rw [hml]; rfl) (Steps.refl _) (argsL := []) (rest := [(.int (((Int32.ofNat pn) * (7 : Int32)) + (1 : Int32))), (.ref w4)]) (lenOf pd_6_5 rfl) rfl (by show 2 * 0 + _ ≤ _; exact Nat.le_of_eq rfl) (hb hby d6_25) (fun _ _ => ⟨rfl, e9, (by decide : 0 + 0 ≤ _), (by decide : 0 + 0 ≤ _)⟩)
  dsimp only [Pt.U, Pt.locs, Pt.cells, Pt.slots] at X10 l10 y10 z10 st10 hQ10
  subst l10 y10 z10
  obtain ⟨rfl, N10q, e10⟩ := hQ10
  have N10 := Fr.app N7 N10q
  obtain ⟨cl_1, Ar_1, S_1, V_1⟩ := A_1
  have hin28 := own_in (k := 1) hpn (by decide) S_1
  obtain ⟨T11, h11, X11, e11, W11, st11⟩ := stJ X10 hx hZ e10 Ar_1 (j := (((Int32.ofNat pn) * (7 : Int32)) + (1 : Int32))) hin28 (g := (mkF m 28 #[.val (.ref a1), .val (.int (Int32.ofNat pn)), .val (.ref a3), .val (.int ((Int32.ofNat pn) * (7 : Int32)))] [(.long c1), (.int (((Int32.ofNat pn) * (7 : Int32)) + (1 : Int32))), (.ref w4)])) rfl rfl (hb hby d6_28)
  have A_2 : own_A Z h11 w4 _ := own_st Ar_1 S_1 V_1 ((own_ix pn hpn 1 (by decide)).1 ▸ W11)
  have Fc_2 := Fc_1.other W11 (Or.inl ne1)
  have Ea_2 := Ea_1.wr W11
  have Z_2 : n0 ≤ h11.size := Nat.le_trans Z_1 (Keep.of_wr W11).1
  have G2_2 := G2_1.other W11 (Or.inl ne3)
  have G3_2 := G3_1.other W11 (Or.inl ne3)
  have G4_2 := G4_1.other W11 (Or.inl ne3)
  have G5_2 := G5_1.other W11 (Or.inl ne3)
  have N11 := Fr.snoc X11 N10 g_w4
  have K11 : Keep h0 h11 [w4] := K7.wr W11 (Or.inl (List.mem_of_getElem? (i := 0) rfl))
  obtain ⟨T13, X13, e13, st13⟩ := getF X11 hx hZ hown (host := "") (Or.inl (hw _ (List.mem_of_getElem? (i := 18) rfl))) Via.refl e11 Fc_2 (g := (mkF m 30 #[.val (.ref a1), .val (.int (Int32.ofNat pn)), .val (.ref a3), .val (.int ((Int32.ofNat pn) * (7 : Int32)))] [(.ref a1)])) rfl rfl (hb hby d6_30)
  obtain ⟨cq14, kq14, q14a, q14b, q14c⟩ := isOf hZ e13 Ea_2
  obtain ⟨_, _, ⟨T14, L14, k14, n14⟩, -, X14, ⟨Lc14, hQ14, l14, y14, z14⟩, st14⟩ := X13.virtualBack hx (y := (⟨"com/example/vestry/vestry/rules/Allocated", "deferrals", "()J"⟩ : MethodName)) (z := (⟨"com/example/vestry/vestry/rules/Allocated", "deferrals", "()J"⟩ : MethodName)) hown (mvT hZ (hw _ (List.mem_of_getElem? (i := 66) rfl))) (mvT hZ (hw _ (List.mem_of_getElem? (i := 67) rfl))) (notFace_of_selects (args := #[]) (mvT hZ (hw _ (List.mem_of_getElem? (i := 69) rfl)))) (mvT hZ (hw _ (List.mem_of_getElem? (i := 69) rfl))) (mvT hZ (hw _ (List.mem_of_getElem? (i := 68) rfl))) (by decide) (backOf (W := 2) (rm9 l Z a0 hw [] a3 c2 h11 n0 Z_2 G2_2) hZ (hw _ (List.mem_of_getElem? (i := 70) rfl)) (hw _ (List.mem_of_getElem? (i := 22) rfl)) (by decide) (by decide)) q14a q14c (g := (mkF m 37 #[.val (.ref a1), .val (.int (Int32.ofNat pn)), .val (.ref a3), .val (.int ((Int32.ofNat pn) * (7 : Int32)))] [(.ref a3), (.int (((Int32.ofNat pn) * (7 : Int32)) + (2 : Int32))), (.ref w4)])) rfl (by rw [hml]; rfl) (Steps.refl _) (argsL := []) (rest := [(.int (((Int32.ofNat pn) * (7 : Int32)) + (2 : Int32))), (.ref w4)]) (lenOf pd_6_5 rfl) rfl (by show 2 * 0 + _ ≤ _; exact Nat.le_of_eq rfl) (hb hby d6_37) (fun _ _ => ⟨rfl, e13, (by decide : 0 + 0 ≤ _), (by decide : 0 + 0 ≤ _)⟩)
  dsimp only [Pt.U, Pt.locs, Pt.cells, Pt.slots] at X14 l14 y14 z14 st14 hQ14
  subst l14 y14 z14
  obtain ⟨rfl, N14q, e14⟩ := hQ14
  have N14 := Fr.app N11 N14q
  obtain ⟨cl_2, Ar_2, S_2, V_2⟩ := A_2
  have hin40 := own_in (k := 2) hpn (by decide) S_2
  obtain ⟨T15, h15, X15, e15, W15, st15⟩ := stJ X14 hx hZ e14 Ar_2 (j := (((Int32.ofNat pn) * (7 : Int32)) + (2 : Int32))) hin40 (g := (mkF m 40 #[.val (.ref a1), .val (.int (Int32.ofNat pn)), .val (.ref a3), .val (.int ((Int32.ofNat pn) * (7 : Int32)))] [(.long c2), (.int (((Int32.ofNat pn) * (7 : Int32)) + (2 : Int32))), (.ref w4)])) rfl rfl (hb hby d6_40)
  have A_3 : own_A Z h15 w4 _ := own_st Ar_2 S_2 V_2 ((own_ix pn hpn 2 (by decide)).1 ▸ W15)
  have Fc_3 := Fc_2.other W15 (Or.inl ne1)
  have Ea_3 := Ea_2.wr W15
  have Z_3 : n0 ≤ h15.size := Nat.le_trans Z_2 (Keep.of_wr W15).1
  have G3_3 := G3_2.other W15 (Or.inl ne3)
  have G4_3 := G4_2.other W15 (Or.inl ne3)
  have G5_3 := G5_2.other W15 (Or.inl ne3)
  have N15 := Fr.snoc X15 N14 g_w4
  have K15 : Keep h0 h15 [w4] := K11.wr W15 (Or.inl (List.mem_of_getElem? (i := 0) rfl))
  obtain ⟨T17, X17, e17, st17⟩ := getF X15 hx hZ hown (host := "") (Or.inl (hw _ (List.mem_of_getElem? (i := 18) rfl))) Via.refl e15 Fc_3 (g := (mkF m 42 #[.val (.ref a1), .val (.int (Int32.ofNat pn)), .val (.ref a3), .val (.int ((Int32.ofNat pn) * (7 : Int32)))] [(.ref a1)])) rfl rfl (hb hby d6_42)
  obtain ⟨cq18, kq18, q18a, q18b, q18c⟩ := isOf hZ e17 Ea_3
  obtain ⟨_, _, ⟨T18, L18, k18, n18⟩, -, X18, ⟨Lc18, hQ18, l18, y18, z18⟩, st18⟩ := X17.virtualBack hx (y := (⟨"com/example/vestry/vestry/rules/Allocated", "catchUp", "()J"⟩ : MethodName)) (z := (⟨"com/example/vestry/vestry/rules/Allocated", "catchUp", "()J"⟩ : MethodName)) hown (mvT hZ (hw _ (List.mem_of_getElem? (i := 71) rfl))) (mvT hZ (hw _ (List.mem_of_getElem? (i := 72) rfl))) (notFace_of_selects (args := #[]) (mvT hZ (hw _ (List.mem_of_getElem? (i := 74) rfl)))) (mvT hZ (hw _ (List.mem_of_getElem? (i := 74) rfl))) (mvT hZ (hw _ (List.mem_of_getElem? (i := 73) rfl))) (by decide) (backOf (W := 2) (rm10 l Z a0 hw [] a3 c3 h15 n0 Z_3 G3_3) hZ (hw _ (List.mem_of_getElem? (i := 75) rfl)) (hw _ (List.mem_of_getElem? (i := 22) rfl)) (by decide) (by decide)) q18a q18c (g := (mkF m 49 #[.val (.ref a1), .val (.int (Int32.ofNat pn)), .val (.ref a3), .val (.int ((Int32.ofNat pn) * (7 : Int32)))] [(.ref a3), (.int (((Int32.ofNat pn) * (7 : Int32)) + (3 : Int32))), (.ref w4)])) rfl (by rw [hml]; rfl) (Steps.refl _) (argsL := []) (rest := [(.int (((Int32.ofNat pn) * (7 : Int32)) + (3 : Int32))), (.ref w4)]) (lenOf pd_6_5 rfl) rfl (by show 2 * 0 + _ ≤ _; exact Nat.le_of_eq rfl) (hb hby d6_49) (fun _ _ => ⟨rfl, e17, (by decide : 0 + 0 ≤ _), (by decide : 0 + 0 ≤ _)⟩)
  dsimp only [Pt.U, Pt.locs, Pt.cells, Pt.slots] at X18 l18 y18 z18 st18 hQ18
  subst l18 y18 z18
  obtain ⟨rfl, N18q, e18⟩ := hQ18
  have N18 := Fr.app N15 N18q
  obtain ⟨cl_3, Ar_3, S_3, V_3⟩ := A_3
  have hin52 := own_in (k := 3) hpn (by decide) S_3
  obtain ⟨T19, h19, X19, e19, W19, st19⟩ := stJ X18 hx hZ e18 Ar_3 (j := (((Int32.ofNat pn) * (7 : Int32)) + (3 : Int32))) hin52 (g := (mkF m 52 #[.val (.ref a1), .val (.int (Int32.ofNat pn)), .val (.ref a3), .val (.int ((Int32.ofNat pn) * (7 : Int32)))] [(.long c3), (.int (((Int32.ofNat pn) * (7 : Int32)) + (3 : Int32))), (.ref w4)])) rfl rfl (hb hby d6_52)
  have A_4 : own_A Z h19 w4 _ := own_st Ar_3 S_3 V_3 ((own_ix pn hpn 3 (by decide)).1 ▸ W19)
  have Fc_4 := Fc_3.other W19 (Or.inl ne1)
  have Ea_4 := Ea_3.wr W19
  have Z_4 : n0 ≤ h19.size := Nat.le_trans Z_3 (Keep.of_wr W19).1
  have G4_4 := G4_3.other W19 (Or.inl ne3)
  have G5_4 := G5_3.other W19 (Or.inl ne3)
  have N19 := Fr.snoc X19 N18 g_w4
  have K19 : Keep h0 h19 [w4] := K15.wr W19 (Or.inl (List.mem_of_getElem? (i := 0) rfl))
  obtain ⟨T21, X21, e21, st21⟩ := getF X19 hx hZ hown (host := "") (Or.inl (hw _ (List.mem_of_getElem? (i := 18) rfl))) Via.refl e19 Fc_4 (g := (mkF m 54 #[.val (.ref a1), .val (.int (Int32.ofNat pn)), .val (.ref a3), .val (.int ((Int32.ofNat pn) * (7 : Int32)))] [(.ref a1)])) rfl rfl (hb hby d6_54)
  obtain ⟨cq22, kq22, q22a, q22b, q22c⟩ := isOf hZ e21 Ea_4
  obtain ⟨_, _, ⟨T22, L22, k22, n22⟩, -, X22, ⟨Lc22, hQ22, l22, y22, z22⟩, st22⟩ := X21.virtualBack hx (y := (⟨"com/example/vestry/vestry/rules/Allocated", "excessDeferrals", "()J"⟩ : MethodName)) (z := (⟨"com/example/vestry/vestry/rules/Allocated", "excessDeferrals", "()J"⟩ : MethodName)) hown (mvT hZ (hw _ (List.mem_of_getElem? (i := 76) rfl))) (mvT hZ (hw _ (List.mem_of_getElem? (i := 77) rfl))) (notFace_of_selects (args := #[]) (mvT hZ (hw _ (List.mem_of_getElem? (i := 79) rfl)))) (mvT hZ (hw _ (List.mem_of_getElem? (i := 79) rfl))) (mvT hZ (hw _ (List.mem_of_getElem? (i := 78) rfl))) (by decide) (backOf (W := 2) (rm11 l Z a0 hw [] a3 c4 h19 n0 Z_4 G4_4) hZ (hw _ (List.mem_of_getElem? (i := 80) rfl)) (hw _ (List.mem_of_getElem? (i := 22) rfl)) (by decide) (by decide)) q22a q22c (g := (mkF m 61 #[.val (.ref a1), .val (.int (Int32.ofNat pn)), .val (.ref a3), .val (.int ((Int32.ofNat pn) * (7 : Int32)))] [(.ref a3), (.int (((Int32.ofNat pn) * (7 : Int32)) + (4 : Int32))), (.ref w4)])) rfl (by rw [hml]; rfl) (Steps.refl _) (argsL := []) (rest := [(.int (((Int32.ofNat pn) * (7 : Int32)) + (4 : Int32))), (.ref w4)]) (lenOf pd_6_5 rfl) rfl (by show 2 * 0 + _ ≤ _; exact Nat.le_of_eq rfl) (hb hby d6_61) (fun _ _ => ⟨rfl, e21, (by decide : 0 + 0 ≤ _), (by decide : 0 + 0 ≤ _)⟩)
  dsimp only [Pt.U, Pt.locs, Pt.cells, Pt.slots] at X22 l22 y22 z22 st22 hQ22
  subst l22 y22 z22
  obtain ⟨rfl, N22q, e22⟩ := hQ22
  have N22 := Fr.app N19 N22q
  obtain ⟨cl_4, Ar_4, S_4, V_4⟩ := A_4
  have hin64 := own_in (k := 4) hpn (by decide) S_4
  obtain ⟨T23, h23, X23, e23, W23, st23⟩ := stJ X22 hx hZ e22 Ar_4 (j := (((Int32.ofNat pn) * (7 : Int32)) + (4 : Int32))) hin64 (g := (mkF m 64 #[.val (.ref a1), .val (.int (Int32.ofNat pn)), .val (.ref a3), .val (.int ((Int32.ofNat pn) * (7 : Int32)))] [(.long c4), (.int (((Int32.ofNat pn) * (7 : Int32)) + (4 : Int32))), (.ref w4)])) rfl rfl (hb hby d6_64)
  have A_5 : own_A Z h23 w4 _ := own_st Ar_4 S_4 V_4 ((own_ix pn hpn 4 (by decide)).1 ▸ W23)
  have Fc_5 := Fc_4.other W23 (Or.inl ne1)
  have Ea_5 := Ea_4.wr W23
  have Z_5 : n0 ≤ h23.size := Nat.le_trans Z_4 (Keep.of_wr W23).1
  have G5_5 := G5_4.other W23 (Or.inl ne3)
  have N23 := Fr.snoc X23 N22 g_w4
  have K23 : Keep h0 h23 [w4] := K19.wr W23 (Or.inl (List.mem_of_getElem? (i := 0) rfl))
  obtain ⟨T25, X25, e25, st25⟩ := getF X23 hx hZ hown (host := "") (Or.inl (hw _ (List.mem_of_getElem? (i := 18) rfl))) Via.refl e23 Fc_5 (g := (mkF m 66 #[.val (.ref a1), .val (.int (Int32.ofNat pn)), .val (.ref a3), .val (.int ((Int32.ofNat pn) * (7 : Int32)))] [(.ref a1)])) rfl rfl (hb hby d6_66)
  obtain ⟨cq26, kq26, q26a, q26b, q26c⟩ := isOf hZ e25 Ea_5
  obtain ⟨_, _, ⟨T26, L26, k26, n26⟩, -, X26, ⟨Lc26, hQ26, l26, y26, z26⟩, st26⟩ := X25.virtualBack hx (y := (⟨"com/example/vestry/vestry/rules/Allocated", "match", "()J"⟩ : MethodName)) (z := (⟨"com/example/vestry/vestry/rules/Allocated", "match", "()J"⟩ : MethodName)) hown (mvT hZ (hw _ (List.mem_of_getElem? (i := 81) rfl))) (mvT hZ (hw _ (List.mem_of_getElem? (i := 82) rfl))) (notFace_of_selects (args := #[]) (mvT hZ (hw _ (List.mem_of_getElem? (i := 84) rfl)))) (mvT hZ (hw _ (List.mem_of_getElem? (i := 84) rfl))) (mvT hZ (hw _ (List.mem_of_getElem? (i := 83) rfl))) (by decide) (backOf (W := 2) (rm12 l Z a0 hw [] a3 c5 h23 n0 Z_5 G5_5) hZ (hw _ (List.mem_of_getElem? (i := 85) rfl)) (hw _ (List.mem_of_getElem? (i := 22) rfl)) (by decide) (by decide)) q26a q26c (g := (mkF m 73 #[.val (.ref a1), .val (.int (Int32.ofNat pn)), .val (.ref a3), .val (.int ((Int32.ofNat pn) * (7 : Int32)))] [(.ref a3), (.int (((Int32.ofNat pn) * (7 : Int32)) + (5 : Int32))), (.ref w4)])) rfl (by rw [hml]; rfl) (Steps.refl _) (argsL := []) (rest := [(.int (((Int32.ofNat pn) * (7 : Int32)) + (5 : Int32))), (.ref w4)]) (lenOf pd_6_5 rfl) rfl (by show 2 * 0 + _ ≤ _; exact Nat.le_of_eq rfl) (hb hby d6_73) (fun _ _ => ⟨rfl, e25, (by decide : 0 + 0 ≤ _), (by decide : 0 + 0 ≤ _)⟩)
  dsimp only [Pt.U, Pt.locs, Pt.cells, Pt.slots] at X26 l26 y26 z26 st26 hQ26
  subst l26 y26 z26
  obtain ⟨rfl, N26q, e26⟩ := hQ26
  have N26 := Fr.app N23 N26q
  obtain ⟨cl_5, Ar_5, S_5, V_5⟩ := A_5
  have hin76 := own_in (k := 5) hpn (by decide) S_5
  obtain ⟨T27, h27, X27, e27, W27, st27⟩ := stJ X26 hx hZ e26 Ar_5 (j := (((Int32.ofNat pn) * (7 : Int32)) + (5 : Int32))) hin76 (g := (mkF m 76 #[.val (.ref a1), .val (.int (Int32.ofNat pn)), .val (.ref a3), .val (.int ((Int32.ofNat pn) * (7 : Int32)))] [(.long c5), (.int (((Int32.ofNat pn) * (7 : Int32)) + (5 : Int32))), (.ref w4)])) rfl rfl (hb hby d6_76)
  have A_6 : own_A Z h27 w4 _ := own_st Ar_5 S_5 V_5 ((own_ix pn hpn 5 (by decide)).1 ▸ W27)
  have Fc_6 := Fc_5.other W27 (Or.inl ne1)
  have Ea_6 := Ea_5.wr W27
  have Z_6 : n0 ≤ h27.size := Nat.le_trans Z_5 (Keep.of_wr W27).1
  have N27 := Fr.snoc X27 N26 g_w4
  have K27 : Keep h0 h27 [w4] := K23.wr W27 (Or.inl (List.mem_of_getElem? (i := 0) rfl))
  obtain ⟨fs, hr, hrun, hended, hW, hsame⟩ := X27.leave (v := none) (fun _ => rfl)
  refine ⟨_, _, pre0 _ ?_, hrun, hended, _, _, rfl, ?_, ⟨_, rfl⟩, hW, hsame.mono (by decide) (by decide)⟩
  · show Steps p.tables e below (s₁.setTop (mkF m 0 #[.val (.ref a1), .val (.int (Int32.ofNat pn)), .val (.ref a3), .unset] [])) _
    refine XS.iloadN X0.here hx rfl (hb hby d6_0) rfl ?_
    show Steps p.tables e below (s₁.setTop (mkF m 1 #[.val (.ref a1), .val (.int (Int32.ofNat pn)), .val (.ref a3), .unset] [(.int (Int32.ofNat pn))])) _
    refine XS.bipush X0.here hx rfl (hb hby d6_1) ?_
    show Steps p.tables e below (s₁.setTop (mkF m 3 #[.val (.ref a1), .val (.int (Int32.ofNat pn)), .val (.ref a3), .unset] [(.int (7 : Int32)), (.int (Int32.ofNat pn))])) _
    refine XS.imul X0.here hx rfl (hb hby d6_3) rfl ?_
    show Steps p.tables e below (s₁.setTop (mkF m 4 #[.val (.ref a1), .val (.int (Int32.ofNat pn)), .val (.ref a3), .unset] [(.int ((Int32.ofNat pn) * (7 : Int32)))])) _
    refine XS.istoreN X0.here hx rfl (hb hby d6_4) rfl (l' := #[.val (.ref a1), .val (.int (Int32.ofNat pn)), .val (.ref a3), .val (.int ((Int32.ofNat pn) * (7 : Int32)))]) rfl ?_
    show Steps p.tables e below (s₁.setTop (mkF m 5 #[.val (.ref a1), .val (.int (Int32.ofNat pn)), .val (.ref a3), .val (.int ((Int32.ofNat pn) * (7 : Int32)))] [])) _
    refine XS.aloadN X0.here hx rfl (hb hby d6_5) rfl rfl ?_
    show Steps p.tables e below (s₁.setTop (mkF m 6 #[.val (.ref a1), .val (.int (Int32.ofNat pn)), .val (.ref a3), .val (.int ((Int32.ofNat pn) * (7 : Int32)))] [(.ref a1)])) _
    refine st5 _ ?_
    show Steps p.tables e below (T5.setTop (mkF m 9 #[.val (.ref a1), .val (.int (Int32.ofNat pn)), .val (.ref a3), .val (.int ((Int32.ofNat pn) * (7 : Int32)))] [(.ref w4)])) _
    refine XS.iloadN X5.here hx rfl (hb hby d6_9) rfl ?_
    show Steps p.tables e below (T5.setTop (mkF m 10 #[.val (.ref a1), .val (.int (Int32.ofNat pn)), .val (.ref a3), .val (.int ((Int32.ofNat pn) * (7 : Int32)))] [(.int ((Int32.ofNat pn) * (7 : Int32))), (.ref w4)])) _
    refine XS.iconst X5.here hx rfl (hb hby d6_10) ?_
    show Steps p.tables e below (T5.setTop (mkF m 11 #[.val (.ref a1), .val (.int (Int32.ofNat pn)), .val (.ref a3), .val (.int ((Int32.ofNat pn) * (7 : Int32)))] [(.int (0 : Int32)), (.int ((Int32.ofNat pn) * (7 : Int32))), (.ref w4)])) _
    refine XS.iadd X5.here hx rfl (hb hby d6_11) rfl ?_
    show Steps p.tables e below (T5.setTop (mkF m 12 #[.val (.ref a1), .val (.int (Int32.ofNat pn)), .val (.ref a3), .val (.int ((Int32.ofNat pn) * (7 : Int32)))] [(.int (((Int32.ofNat pn) * (7 : Int32)) + (0 : Int32))), (.ref w4)])) _
    refine XS.aloadN X5.here hx rfl (hb hby d6_12) rfl rfl ?_
    show Steps p.tables e below (T5.setTop (mkF m 13 #[.val (.ref a1), .val (.int (Int32.ofNat pn)), .val (.ref a3), .val (.int ((Int32.ofNat pn) * (7 : Int32)))] [(.ref a3), (.int (((Int32.ofNat pn) * (7 : Int32)) + (0 : Int32))), (.ref w4)])) _
    refine st6.trans ?_
    show Steps p.tables e below (T6.setTop (mkF m 16 #[.val (.ref a1), .val (.int (Int32.ofNat pn)), .val (.ref a3), .val (.int ((Int32.ofNat pn) * (7 : Int32)))] [(.long c0), (.int (((Int32.ofNat pn) * (7 : Int32)) + (0 : Int32))), (.ref w4)])) _
    refine st7 _ ?_
    show Steps p.tables e below (T7.setTop (mkF m 17 #[.val (.ref a1), .val (.int (Int32.ofNat pn)), .val (.ref a3), .val (.int ((Int32.ofNat pn) * (7 : Int32)))] [])) _
    refine XS.aloadN X7.here hx rfl (hb hby d6_17) rfl rfl ?_
    show Steps p.tables e below (T7.setTop (mkF m 18 #[.val (.ref a1), .val (.int (Int32.ofNat pn)), .val (.ref a3), .val (.int ((Int32.ofNat pn) * (7 : Int32)))] [(.ref a1)])) _
    refine st9 _ ?_
    show Steps p.tables e below (T9.setTop (mkF m 21 #[.val (.ref a1), .val (.int (Int32.ofNat pn)), .val (.ref a3), .val (.int ((Int32.ofNat pn) * (7 : Int32)))] [(.ref w4)])) _
    refine XS.iloadN X9.here hx rfl (hb hby d6_21) rfl ?_
    show Steps p.tables e below (T9.setTop (mkF m 22 #[.val (.ref a1), .val (.int (Int32.ofNat pn)), .val (.ref a3), .val (.int ((Int32.ofNat pn) * (7 : Int32)))] [(.int ((Int32.ofNat pn) * (7 : Int32))), (.ref w4)])) _
    refine XS.iconst X9.here hx rfl (hb hby d6_22) ?_
    show Steps p.tables e below (T9.setTop (mkF m 23 #[.val (.ref a1), .val (.int (Int32.ofNat pn)), .val (.ref a3), .val (.int ((Int32.ofNat pn) * (7 : Int32)))] [(.int (1 : Int32)), (.int ((Int32.ofNat pn) * (7 : Int32))), (.ref w4)])) _
    refine XS.iadd X9.here hx rfl (hb hby d6_23) rfl ?_
    show Steps p.tables e below (T9.setTop (mkF m 24 #[.val (.ref a1), .val (.int (Int32.ofNat pn)), .val (.ref a3), .val (.int ((Int32.ofNat pn) * (7 : Int32)))] [(.int (((Int32.ofNat pn) * (7 : Int32)) + (1 : Int32))), (.ref w4)])) _
    refine XS.aloadN X9.here hx rfl (hb hby d6_24) rfl rfl ?_
    show Steps p.tables e below (T9.setTop (mkF m 25 #[.val (.ref a1), .val (.int (Int32.ofNat pn)), .val (.ref a3), .val (.int ((Int32.ofNat pn) * (7 : Int32)))] [(.ref a3), (.int (((Int32.ofNat pn) * (7 : Int32)) + (1 : Int32))), (.ref w4)])) _
    refine st10.trans ?_
    show Steps p.tables e below (T10.setTop (mkF m 28 #[.val (.ref a1), .val (.int (Int32.ofNat pn)), .val (.ref a3), .val (.int ((Int32.ofNat pn) * (7 : Int32)))] [(.long c1), (.int (((Int32.ofNat pn) * (7 : Int32)) + (1 : Int32))), (.ref w4)])) _
    refine st11 _ ?_
    show Steps p.tables e below (T11.setTop (mkF m 29 #[.val (.ref a1), .val (.int (Int32.ofNat pn)), .val (.ref a3), .val (.int ((Int32.ofNat pn) * (7 : Int32)))] [])) _
    refine XS.aloadN X11.here hx rfl (hb hby d6_29) rfl rfl ?_
    show Steps p.tables e below (T11.setTop (mkF m 30 #[.val (.ref a1), .val (.int (Int32.ofNat pn)), .val (.ref a3), .val (.int ((Int32.ofNat pn) * (7 : Int32)))] [(.ref a1)])) _
    refine st13 _ ?_
    show Steps p.tables e below (T13.setTop (mkF m 33 #[.val (.ref a1), .val (.int (Int32.ofNat pn)), .val (.ref a3), .val (.int ((Int32.ofNat pn) * (7 : Int32)))] [(.ref w4)])) _
    refine XS.iloadN X13.here hx rfl (hb hby d6_33) rfl ?_
    show Steps p.tables e below (T13.setTop (mkF m 34 #[.val (.ref a1), .val (.int (Int32.ofNat pn)), .val (.ref a3), .val (.int ((Int32.ofNat pn) * (7 : Int32)))] [(.int ((Int32.ofNat pn) * (7 : Int32))), (.ref w4)])) _
    refine XS.iconst X13.here hx rfl (hb hby d6_34) ?_
    show Steps p.tables e below (T13.setTop (mkF m 35 #[.val (.ref a1), .val (.int (Int32.ofNat pn)), .val (.ref a3), .val (.int ((Int32.ofNat pn) * (7 : Int32)))] [(.int (2 : Int32)), (.int ((Int32.ofNat pn) * (7 : Int32))), (.ref w4)])) _
    refine XS.iadd X13.here hx rfl (hb hby d6_35) rfl ?_
    show Steps p.tables e below (T13.setTop (mkF m 36 #[.val (.ref a1), .val (.int (Int32.ofNat pn)), .val (.ref a3), .val (.int ((Int32.ofNat pn) * (7 : Int32)))] [(.int (((Int32.ofNat pn) * (7 : Int32)) + (2 : Int32))), (.ref w4)])) _
    refine XS.aloadN X13.here hx rfl (hb hby d6_36) rfl rfl ?_
    show Steps p.tables e below (T13.setTop (mkF m 37 #[.val (.ref a1), .val (.int (Int32.ofNat pn)), .val (.ref a3), .val (.int ((Int32.ofNat pn) * (7 : Int32)))] [(.ref a3), (.int (((Int32.ofNat pn) * (7 : Int32)) + (2 : Int32))), (.ref w4)])) _
    refine st14.trans ?_
    show Steps p.tables e below (T14.setTop (mkF m 40 #[.val (.ref a1), .val (.int (Int32.ofNat pn)), .val (.ref a3), .val (.int ((Int32.ofNat pn) * (7 : Int32)))] [(.long c2), (.int (((Int32.ofNat pn) * (7 : Int32)) + (2 : Int32))), (.ref w4)])) _
    refine st15 _ ?_
    show Steps p.tables e below (T15.setTop (mkF m 41 #[.val (.ref a1), .val (.int (Int32.ofNat pn)), .val (.ref a3), .val (.int ((Int32.ofNat pn) * (7 : Int32)))] [])) _
    refine XS.aloadN X15.here hx rfl (hb hby d6_41) rfl rfl ?_
    show Steps p.tables e below (T15.setTop (mkF m 42 #[.val (.ref a1), .val (.int (Int32.ofNat pn)), .val (.ref a3), .val (.int ((Int32.ofNat pn) * (7 : Int32)))] [(.ref a1)])) _
    refine st17 _ ?_
    show Steps p.tables e below (T17.setTop (mkF m 45 #[.val (.ref a1), .val (.int (Int32.ofNat pn)), .val (.ref a3), .val (.int ((Int32.ofNat pn) * (7 : Int32)))] [(.ref w4)])) _
    refine XS.iloadN X17.here hx rfl (hb hby d6_45) rfl ?_
    show Steps p.tables e below (T17.setTop (mkF m 46 #[.val (.ref a1), .val (.int (Int32.ofNat pn)), .val (.ref a3), .val (.int ((Int32.ofNat pn) * (7 : Int32)))] [(.int ((Int32.ofNat pn) * (7 : Int32))), (.ref w4)])) _
    refine XS.iconst X17.here hx rfl (hb hby d6_46) ?_
    show Steps p.tables e below (T17.setTop (mkF m 47 #[.val (.ref a1), .val (.int (Int32.ofNat pn)), .val (.ref a3), .val (.int ((Int32.ofNat pn) * (7 : Int32)))] [(.int (3 : Int32)), (.int ((Int32.ofNat pn) * (7 : Int32))), (.ref w4)])) _
    refine XS.iadd X17.here hx rfl (hb hby d6_47) rfl ?_
    show Steps p.tables e below (T17.setTop (mkF m 48 #[.val (.ref a1), .val (.int (Int32.ofNat pn)), .val (.ref a3), .val (.int ((Int32.ofNat pn) * (7 : Int32)))] [(.int (((Int32.ofNat pn) * (7 : Int32)) + (3 : Int32))), (.ref w4)])) _
    refine XS.aloadN X17.here hx rfl (hb hby d6_48) rfl rfl ?_
    show Steps p.tables e below (T17.setTop (mkF m 49 #[.val (.ref a1), .val (.int (Int32.ofNat pn)), .val (.ref a3), .val (.int ((Int32.ofNat pn) * (7 : Int32)))] [(.ref a3), (.int (((Int32.ofNat pn) * (7 : Int32)) + (3 : Int32))), (.ref w4)])) _
    refine st18.trans ?_
    show Steps p.tables e below (T18.setTop (mkF m 52 #[.val (.ref a1), .val (.int (Int32.ofNat pn)), .val (.ref a3), .val (.int ((Int32.ofNat pn) * (7 : Int32)))] [(.long c3), (.int (((Int32.ofNat pn) * (7 : Int32)) + (3 : Int32))), (.ref w4)])) _
    refine st19 _ ?_
    show Steps p.tables e below (T19.setTop (mkF m 53 #[.val (.ref a1), .val (.int (Int32.ofNat pn)), .val (.ref a3), .val (.int ((Int32.ofNat pn) * (7 : Int32)))] [])) _
    refine XS.aloadN X19.here hx rfl (hb hby d6_53) rfl rfl ?_
    show Steps p.tables e below (T19.setTop (mkF m 54 #[.val (.ref a1), .val (.int (Int32.ofNat pn)), .val (.ref a3), .val (.int ((Int32.ofNat pn) * (7 : Int32)))] [(.ref a1)])) _
    refine st21 _ ?_
    show Steps p.tables e below (T21.setTop (mkF m 57 #[.val (.ref a1), .val (.int (Int32.ofNat pn)), .val (.ref a3), .val (.int ((Int32.ofNat pn) * (7 : Int32)))] [(.ref w4)])) _
    refine XS.iloadN X21.here hx rfl (hb hby d6_57) rfl ?_
    show Steps p.tables e below (T21.setTop (mkF m 58 #[.val (.ref a1), .val (.int (Int32.ofNat pn)), .val (.ref a3), .val (.int ((Int32.ofNat pn) * (7 : Int32)))] [(.int ((Int32.ofNat pn) * (7 : Int32))), (.ref w4)])) _
    refine XS.iconst X21.here hx rfl (hb hby d6_58) ?_
    show Steps p.tables e below (T21.setTop (mkF m 59 #[.val (.ref a1), .val (.int (Int32.ofNat pn)), .val (.ref a3), .val (.int ((Int32.ofNat pn) * (7 : Int32)))] [(.int (4 : Int32)), (.int ((Int32.ofNat pn) * (7 : Int32))), (.ref w4)])) _
    refine XS.iadd X21.here hx rfl (hb hby d6_59) rfl ?_
    show Steps p.tables e below (T21.setTop (mkF m 60 #[.val (.ref a1), .val (.int (Int32.ofNat pn)), .val (.ref a3), .val (.int ((Int32.ofNat pn) * (7 : Int32)))] [(.int (((Int32.ofNat pn) * (7 : Int32)) + (4 : Int32))), (.ref w4)])) _
    refine XS.aloadN X21.here hx rfl (hb hby d6_60) rfl rfl ?_
    show Steps p.tables e below (T21.setTop (mkF m 61 #[.val (.ref a1), .val (.int (Int32.ofNat pn)), .val (.ref a3), .val (.int ((Int32.ofNat pn) * (7 : Int32)))] [(.ref a3), (.int (((Int32.ofNat pn) * (7 : Int32)) + (4 : Int32))), (.ref w4)])) _
    refine st22.trans ?_
    show Steps p.tables e below (T22.setTop (mkF m 64 #[.val (.ref a1), .val (.int (Int32.ofNat pn)), .val (.ref a3), .val (.int ((Int32.ofNat pn) * (7 : Int32)))] [(.long c4), (.int (((Int32.ofNat pn) * (7 : Int32)) + (4 : Int32))), (.ref w4)])) _
    refine st23 _ ?_
    show Steps p.tables e below (T23.setTop (mkF m 65 #[.val (.ref a1), .val (.int (Int32.ofNat pn)), .val (.ref a3), .val (.int ((Int32.ofNat pn) * (7 : Int32)))] [])) _
    refine XS.aloadN X23.here hx rfl (hb hby d6_65) rfl rfl ?_
    show Steps p.tables e below (T23.setTop (mkF m 66 #[.val (.ref a1), .val (.int (Int32.ofNat pn)), .val (.ref a3), .val (.int ((Int32.ofNat pn) * (7 : Int32)))] [(.ref a1)])) _
    refine st25 _ ?_
    show Steps p.tables e below (T25.setTop (mkF m 69 #[.val (.ref a1), .val (.int (Int32.ofNat pn)), .val (.ref a3), .val (.int ((Int32.ofNat pn) * (7 : Int32)))] [(.ref w4)])) _
    refine XS.iloadN X25.here hx rfl (hb hby d6_69) rfl ?_
    show Steps p.tables e below (T25.setTop (mkF m 70 #[.val (.ref a1), .val (.int (Int32.ofNat pn)), .val (.ref a3), .val (.int ((Int32.ofNat pn) * (7 : Int32)))] [(.int ((Int32.ofNat pn) * (7 : Int32))), (.ref w4)])) _
    refine XS.iconst X25.here hx rfl (hb hby d6_70) ?_
    show Steps p.tables e below (T25.setTop (mkF m 71 #[.val (.ref a1), .val (.int (Int32.ofNat pn)), .val (.ref a3), .val (.int ((Int32.ofNat pn) * (7 : Int32)))] [(.int (5 : Int32)), (.int ((Int32.ofNat pn) * (7 : Int32))), (.ref w4)])) _
    refine XS.iadd X25.here hx rfl (hb hby d6_71) rfl ?_
    show Steps p.tables e below (T25.setTop (mkF m 72 #[.val (.ref a1), .val (.int (Int32.ofNat pn)), .val (.ref a3), .val (.int ((Int32.ofNat pn) * (7 : Int32)))] [(.int (((Int32.ofNat pn) * (7 : Int32)) + (5 : Int32))), (.ref w4)])) _
    refine XS.aloadN X25.here hx rfl (hb hby d6_72) rfl rfl ?_
    show Steps p.tables e below (T25.setTop (mkF m 73 #[.val (.ref a1), .val (.int (Int32.ofNat pn)), .val (.ref a3), .val (.int ((Int32.ofNat pn) * (7 : Int32)))] [(.ref a3), (.int (((Int32.ofNat pn) * (7 : Int32)) + (5 : Int32))), (.ref w4)])) _
    refine st26.trans ?_
    show Steps p.tables e below (T26.setTop (mkF m 76 #[.val (.ref a1), .val (.int (Int32.ofNat pn)), .val (.ref a3), .val (.int ((Int32.ofNat pn) * (7 : Int32)))] [(.long c5), (.int (((Int32.ofNat pn) * (7 : Int32)) + (5 : Int32))), (.ref w4)])) _
    refine st27 _ ?_
    show Steps p.tables e below (T27.setTop (mkF m 77 #[.val (.ref a1), .val (.int (Int32.ofNat pn)), .val (.ref a3), .val (.int ((Int32.ofNat pn) * (7 : Int32)))] [])) _
    exact X27.returnOut hx Bd.returns (hb hby d6_77) hr
  · show QA Z w4 (own_set f pn c0 c1 c2 c3 c4 c5) h0 n0 _ T27.heap _
    rw [e27]
    exact ⟨rfl, N27, K27, A_6⟩

theorem d13_0 : decode prog_95_method_5_code 0 = .ok (.aload_n 0, 1) := by decide +kernel
theorem d13_1 : decode prog_95_method_5_code 1 = .ok (.getfield 19, 3) := by decide +kernel
theorem d13_4 : decode prog_95_method_5_code 4 = .ok (.iload_n 1, 1) := by decide +kernel
theorem d13_5 : decode prog_95_method_5_code 5 = .ok (.bipush 7, 2) := by decide +kernel
theorem d13_7 : decode prog_95_method_5_code 7 = .ok (.imul, 1) := by decide +kernel
theorem d13_8 : decode prog_95_method_5_code 8 = .ok (.bipush 6, 2) := by decide +kernel
theorem d13_10 : decode prog_95_method_5_code 10 = .ok (.iadd, 1) := by decide +kernel
theorem d13_11 : decode prog_95_method_5_code 11 = .ok (.lload_n 2, 1) := by decide +kernel
theorem d13_12 : decode prog_95_method_5_code 12 = .ok (.lastore, 1) := by decide +kernel
theorem d13_13 : decode prog_95_method_5_code 13 = .ok (.return_, 1) := by decide +kernel
theorem pn_13 : plainName "com/example/vestry/vestry/rules/Allocations" = true := by first | (simp [plainName, overriddenIn]; done) | decide +kernel
theorem ef_13 (m : MethodId) (x0 : Addr) (x1 : Int32) (x2 : Int64) : entryFrame m #[(.ref x0), (.int x1), (.long x2)] 4 = mkF m 0 #[.val (.ref x0), .val (.int x1), .val (.long x2), .second] [] := by first | (simp [entryFrame, mkF, argsToLocals, Value.category]; done) | rfl
set_option maxRecDepth 65536 in
set_option maxHeartbeats 40000000 in
theorem rm13 (l : Launch) (Z : State) (a0 : Array Value) (hw : ∀ d ∈ tables_1, d.before a0 Z = true) (ws : List Jvm.Cond) (a1 : Addr) (pn : Nat) (hpn : pn < 3) (q3 : Int64) (w4 : Addr) (f : Nat → Int64) (h0 : Heap) (n0 : Nat) (Z0 : n0 ≤ h0.size) (F_cents_a1 : Fld Z h0 a1 "com/example/vestry/vestry/rules/Allocations" "cents" "[J" (.ref w4)) (A_w4 : own_A Z h0 w4 f) (g_w4 : n0 ≤ w4) :
    MetFree l (⟨"com/example/vestry/vestry/rules/Allocations", "setProfitSharing", "(IJ)V"⟩ : MethodName) (head1 (Jvm.Cond.code (⟨"com/example/vestry/vestry/rules/Allocations", "setProfitSharing", "(IJ)V"⟩ : MethodName) prog_95_method_5_code 4 none :: ws) ({ frames := 0, cells := 0, slots := 0, locals := 0 } : Room)) (fun a U => a = #[(.ref a1), (.int (Int32.ofNat pn)), (.long q3)] ∧ Z.Warmed39 U.vm ∧ U.heap = h0) (fun _ _ _ _ _ => True) (fun _ U o U' => ∃ v L, o = .returned v ∧ QA Z w4 (own_upd f (7 * pn + 6) q3) h0 n0 v U'.heap L ∧ FrameEnd U o U' L ({ frames := 0, cells := 0, slots := 0, locals := 0 } : Room).cells ({ frames := 0, cells := 0, slots := 0, locals := 0 } : Room).slots) := by
  refine MetFree.of_bodySF (plainFor_of_name pn_13) hisR ?_
  intro p e s m args below meth c s₁ Bd hml0 hP hK
  obtain ⟨rfl, hZ, hh⟩ := hP
  have hx := Bd.exec
  have hby := Bd.bytes
  have hml : c.maxLocals = 4 := hml0
  have hown : s.vm.findClass "com/example/vestry/vestry/rules/Allocations" = some m.cls := findClass_of_methodNamed Bd.named
  have hnm := (name_of_methodNamed Bd.named Bd.method).1
  have X0 : Stand p l e ({ frames := 0, cells := 0, slots := 0, locals := 0 } : Room) s m #[(.ref a1), (.int (Int32.ofNat pn)), (.long q3)] below meth c s₁ [] 0 0 := Stand.of_body Bd
  have e0 : s₁.heap = h0 := by rw [← hh, Bd.state]; rfl
  have N0 := Fr.nil n0
  have pre0 : ∀ t, Steps p.tables e below (s₁.setTop (mkF m 0 #[.val (.ref a1), .val (.int (Int32.ofNat pn)), .val (.long q3), .second] [])) t → Steps p.tables e below (s₁.setTop (entryFrame m #[(.ref a1), (.int (Int32.ofNat pn)), (.long q3)] 4)) t := fun t k => castTop (ef_13 m a1 (Int32.ofNat pn) q3) k
  obtain ⟨cl_w4, Ar_w4, S_w4, V_w4⟩ := A_w4
  have hin12 := own_in (k := 6) hpn (by decide) S_w4
  obtain ⟨T5, X5, e5, st5⟩ := getF X0 hx hZ hown (host := "") (Or.inl (hw _ (List.mem_of_getElem? (i := 18) rfl))) Via.refl e0 F_cents_a1 (g := (mkF m 1 #[.val (.ref a1), .val (.int (Int32.ofNat pn)), .val (.long q3), .second] [(.ref a1)])) rfl rfl (hb hby d13_1)
  obtain ⟨T6, h6, X6, e6, W6, st6⟩ := stJ X5 hx hZ e5 Ar_w4 (j := (((Int32.ofNat pn) * (7 : Int32)) + (6 : Int32))) hin12 (g := (mkF m 12 #[.val (.ref a1), .val (.int (Int32.ofNat pn)), .val (.long q3), .second] [(.long q3), (.int (((Int32.ofNat pn) * (7 : Int32)) + (6 : Int32))), (.ref w4)])) rfl rfl (hb hby d13_12)
  have N6 := Fr.snoc X6 N0 g_w4
  have K6 : Keep h0 h6 [w4] := (Keep.refl h0 [w4]).wr W6 (Or.inl (List.mem_of_getElem? (i := 0) rfl))
  obtain ⟨fs, hr, hrun, hended, hW, hsame⟩ := X6.leave (v := none) (fun _ => rfl)
  refine ⟨_, _, pre0 _ ?_, hrun, hended, _, _, rfl, ?_, ⟨_, rfl⟩, hW, hsame.mono (by decide) (by decide)⟩
  · show Steps p.tables e below (s₁.setTop (mkF m 0 #[.val (.ref a1), .val (.int (Int32.ofNat pn)), .val (.long q3), .second] [])) _
    refine XS.aloadN X0.here hx rfl (hb hby d13_0) rfl rfl ?_
    show Steps p.tables e below (s₁.setTop (mkF m 1 #[.val (.ref a1), .val (.int (Int32.ofNat pn)), .val (.long q3), .second] [(.ref a1)])) _
    refine st5 _ ?_
    show Steps p.tables e below (T5.setTop (mkF m 4 #[.val (.ref a1), .val (.int (Int32.ofNat pn)), .val (.long q3), .second] [(.ref w4)])) _
    refine XS.iloadN X5.here hx rfl (hb hby d13_4) rfl ?_
    show Steps p.tables e below (T5.setTop (mkF m 5 #[.val (.ref a1), .val (.int (Int32.ofNat pn)), .val (.long q3), .second] [(.int (Int32.ofNat pn)), (.ref w4)])) _
    refine XS.bipush X5.here hx rfl (hb hby d13_5) ?_
    show Steps p.tables e below (T5.setTop (mkF m 7 #[.val (.ref a1), .val (.int (Int32.ofNat pn)), .val (.long q3), .second] [(.int (7 : Int32)), (.int (Int32.ofNat pn)), (.ref w4)])) _
    refine XS.imul X5.here hx rfl (hb hby d13_7) rfl ?_
    show Steps p.tables e below (T5.setTop (mkF m 8 #[.val (.ref a1), .val (.int (Int32.ofNat pn)), .val (.long q3), .second] [(.int ((Int32.ofNat pn) * (7 : Int32))), (.ref w4)])) _
    refine XS.bipush X5.here hx rfl (hb hby d13_8) ?_
    show Steps p.tables e below (T5.setTop (mkF m 10 #[.val (.ref a1), .val (.int (Int32.ofNat pn)), .val (.long q3), .second] [(.int (6 : Int32)), (.int ((Int32.ofNat pn) * (7 : Int32))), (.ref w4)])) _
    refine XS.iadd X5.here hx rfl (hb hby d13_10) rfl ?_
    show Steps p.tables e below (T5.setTop (mkF m 11 #[.val (.ref a1), .val (.int (Int32.ofNat pn)), .val (.long q3), .second] [(.int (((Int32.ofNat pn) * (7 : Int32)) + (6 : Int32))), (.ref w4)])) _
    refine XS.lloadN X5.here hx rfl (hb hby d13_11) rfl ?_
    show Steps p.tables e below (T5.setTop (mkF m 12 #[.val (.ref a1), .val (.int (Int32.ofNat pn)), .val (.long q3), .second] [(.long q3), (.int (((Int32.ofNat pn) * (7 : Int32)) + (6 : Int32))), (.ref w4)])) _
    refine st6 _ ?_
    show Steps p.tables e below (T6.setTop (mkF m 13 #[.val (.ref a1), .val (.int (Int32.ofNat pn)), .val (.long q3), .second] [])) _
    exact X6.returnOut hx Bd.returns (hb hby d13_13) hr
  · show QA Z w4 (own_upd f (7 * pn + 6) q3) h0 n0 _ T6.heap _
    rw [e6]
    exact ⟨rfl, N6, K6, own_st Ar_w4 S_w4 V_w4 ((own_ix pn hpn 6 (by decide)).1 ▸ W6)⟩

theorem d14_0 : decode prog_95_method_6_code 0 = .ok (.aload_n 0, 1) := by decide +kernel
theorem d14_1 : decode prog_95_method_6_code 1 = .ok (.getfield 19, 3) := by decide +kernel
theorem d14_4 : decode prog_95_method_6_code 4 = .ok (.iload_n 1, 1) := by decide +kernel
theorem d14_5 : decode prog_95_method_6_code 5 = .ok (.bipush 7, 2) := by decide +kernel
theorem d14_7 : decode prog_95_method_6_code 7 = .ok (.imul, 1) := by decide +kernel
theorem d14_8 : decode prog_95_method_6_code 8 = .ok (.bipush 6, 2) := by decide +kernel
theorem d14_10 : decode prog_95_method_6_code 10 = .ok (.iadd, 1) := by decide +kernel
theorem d14_11 : decode prog_95_method_6_code 11 = .ok (.dup2, 1) := by decide +kernel
theorem d14_12 : decode prog_95_method_6_code 12 = .ok (.laload, 1) := by decide +kernel
theorem d14_13 : decode prog_95_method_6_code 13 = .ok (.lconst 1, 1) := by decide +kernel
theorem d14_14 : decode prog_95_method_6_code 14 = .ok (.ladd, 1) := by decide +kernel
theorem d14_15 : decode prog_95_method_6_code 15 = .ok (.lastore, 1) := by decide +kernel
theorem d14_16 : decode prog_95_method_6_code 16 = .ok (.return_, 1) := by decide +kernel
theorem pn_14 : plainName "com/example/vestry/vestry/rules/Allocations" = true := by first | (simp [plainName, overriddenIn]; done) | decide +kernel
theorem ef_14 (m : MethodId) (x0 : Addr) (x1 : Int32) : entryFrame m #[(.ref x0), (.int x1)] 2 = mkF m 0 #[.val (.ref x0), .val (.int x1)] [] := by first | (simp [entryFrame, mkF, argsToLocals, Value.category]; done) | rfl
set_option maxRecDepth 65536 in
set_option maxHeartbeats 40000000 in
theorem rm14 (l : Launch) (Z : State) (a0 : Array Value) (hw : ∀ d ∈ tables_1, d.before a0 Z = true) (ws : List Jvm.Cond) (a1 : Addr) (pn : Nat) (hpn : pn < 3) (w3 : Addr) (w5 : Int64) (f : Nat → Int64) (h0 : Heap) (n0 : Nat) (Z0 : n0 ≤ h0.size) (F_cents_a1 : Fld Z h0 a1 "com/example/vestry/vestry/rules/Allocations" "cents" "[J" (.ref w3)) (A_w3 : own_A Z h0 w3 f) (hv : f (7 * pn + 6) = w5) (g_w3 : n0 ≤ w3) :
    MetFree l (⟨"com/example/vestry/vestry/rules/Allocations", "addProfitSharingCent", "(I)V"⟩ : MethodName) (head1 (Jvm.Cond.code (⟨"com/example/vestry/vestry/rules/Allocations", "addProfitSharingCent", "(I)V"⟩ : MethodName) prog_95_method_6_code 2 none :: ws) ({ frames := 0, cells := 0, slots := 0, locals := 0 } : Room)) (fun a U => a = #[(.ref a1), (.int (Int32.ofNat pn))] ∧ Z.Warmed39 U.vm ∧ U.heap = h0) (fun _ _ _ _ _ => True) (fun _ U o U' => ∃ v L, o = .returned v ∧ QA Z w3 (own_upd f (7 * pn + 6) (w5 + (1 : Int64))) h0 n0 v U'.heap L ∧ FrameEnd U o U' L ({ frames := 0, cells := 0, slots := 0, locals := 0 } : Room).cells ({ frames := 0, cells := 0, slots := 0, locals := 0 } : Room).slots) := by
  refine MetFree.of_bodySF (plainFor_of_name pn_14) hisR ?_
  intro p e s m args below meth c s₁ Bd hml0 hP hK
  obtain ⟨rfl, hZ, hh⟩ := hP
  have hx := Bd.exec
  have hby := Bd.bytes
  have hml : c.maxLocals = 2 := hml0
  have hown : s.vm.findClass "com/example/vestry/vestry/rules/Allocations" = some m.cls := findClass_of_methodNamed Bd.named
  have hnm := (name_of_methodNamed Bd.named Bd.method).1
  have X0 : Stand p l e ({ frames := 0, cells := 0, slots := 0, locals := 0 } : Room) s m #[(.ref a1), (.int (Int32.ofNat pn))] below meth c s₁ [] 0 0 := Stand.of_body Bd
  have e0 : s₁.heap = h0 := by rw [← hh, Bd.state]; rfl
  have N0 := Fr.nil n0
  have pre0 : ∀ t, Steps p.tables e below (s₁.setTop (mkF m 0 #[.val (.ref a1), .val (.int (Int32.ofNat pn))] [])) t → Steps p.tables e below (s₁.setTop (entryFrame m #[(.ref a1), (.int (Int32.ofNat pn))] 2)) t := fun t k => castTop (ef_14 m a1 (Int32.ofNat pn)) k
  obtain ⟨cl_w3, Ar_w3, S_w3, V_w3⟩ := A_w3
  have hin12 := own_in (k := 6) hpn (by decide) S_w3
  have hin15 := hin12
  have hat12 := own_at (k := 6) hpn (by decide) V_w3 hv
  obtain ⟨T4, X4, e4, st4⟩ := getF X0 hx hZ hown (host := "") (Or.inl (hw _ (List.mem_of_getElem? (i := 18) rfl))) Via.refl e0 F_cents_a1 (g := (mkF m 1 #[.val (.ref a1), .val (.int (Int32.ofNat pn))] [(.ref a1)])) rfl rfl (hb hby d14_1)
  obtain ⟨T6, h6, X6, e6, W6, st6⟩ := stJ X4 hx hZ e4 Ar_w3 (j := (((Int32.ofNat pn) * (7 : Int32)) + (6 : Int32))) hin15 (g := (mkF m 15 #[.val (.ref a1), .val (.int (Int32.ofNat pn))] [(.long (w5 + (1 : Int64))), (.int (((Int32.ofNat pn) * (7 : Int32)) + (6 : Int32))), (.ref w3)])) rfl rfl (hb hby d14_15)
  have N6 := Fr.snoc X6 N0 g_w3
  have K6 : Keep h0 h6 [w3] := (Keep.refl h0 [w3]).wr W6 (Or.inl (List.mem_of_getElem? (i := 0) rfl))
  obtain ⟨fs, hr, hrun, hended, hW, hsame⟩ := X6.leave (v := none) (fun _ => rfl)
  refine ⟨_, _, pre0 _ ?_, hrun, hended, _, _, rfl, ?_, ⟨_, rfl⟩, hW, hsame.mono (by decide) (by decide)⟩
  · show Steps p.tables e below (s₁.setTop (mkF m 0 #[.val (.ref a1), .val (.int (Int32.ofNat pn))] [])) _
    refine XS.aloadN X0.here hx rfl (hb hby d14_0) rfl rfl ?_
    show Steps p.tables e below (s₁.setTop (mkF m 1 #[.val (.ref a1), .val (.int (Int32.ofNat pn))] [(.ref a1)])) _
    refine st4 _ ?_
    show Steps p.tables e below (T4.setTop (mkF m 4 #[.val (.ref a1), .val (.int (Int32.ofNat pn))] [(.ref w3)])) _
    refine XS.iloadN X4.here hx rfl (hb hby d14_4) rfl ?_
    show Steps p.tables e below (T4.setTop (mkF m 5 #[.val (.ref a1), .val (.int (Int32.ofNat pn))] [(.int (Int32.ofNat pn)), (.ref w3)])) _
    refine XS.bipush X4.here hx rfl (hb hby d14_5) ?_
    show Steps p.tables e below (T4.setTop (mkF m 7 #[.val (.ref a1), .val (.int (Int32.ofNat pn))] [(.int (7 : Int32)), (.int (Int32.ofNat pn)), (.ref w3)])) _
    refine XS.imul X4.here hx rfl (hb hby d14_7) rfl ?_
    show Steps p.tables e below (T4.setTop (mkF m 8 #[.val (.ref a1), .val (.int (Int32.ofNat pn))] [(.int ((Int32.ofNat pn) * (7 : Int32))), (.ref w3)])) _
    refine XS.bipush X4.here hx rfl (hb hby d14_8) ?_
    show Steps p.tables e below (T4.setTop (mkF m 10 #[.val (.ref a1), .val (.int (Int32.ofNat pn))] [(.int (6 : Int32)), (.int ((Int32.ofNat pn) * (7 : Int32))), (.ref w3)])) _
    refine XS.iadd X4.here hx rfl (hb hby d14_10) rfl ?_
    show Steps p.tables e below (T4.setTop (mkF m 11 #[.val (.ref a1), .val (.int (Int32.ofNat pn))] [(.int (((Int32.ofNat pn) * (7 : Int32)) + (6 : Int32))), (.ref w3)])) _
    jvm_step X4.here [X4.here.top, hx, (hb hby d14_11), Value.category]
    show Steps p.tables e below (T4.setTop (mkF m 12 #[.val (.ref a1), .val (.int (Int32.ofNat pn))] [(.int (((Int32.ofNat pn) * (7 : Int32)) + (6 : Int32))), (.ref w3), (.int (((Int32.ofNat pn) * (7 : Int32)) + (6 : Int32))), (.ref w3)])) _
    refine X4.laload hx (j := (((Int32.ofNat pn) * (7 : Int32)) + (6 : Int32))) (v := (.long w5)) (by rw [e4]; exact Ar_w3.1) (State.isArrayOf_alike hZ.alike Ar_w3.2.1) Ar_w3.2.2 hin12 hat12 (g := (mkF m 12 #[.val (.ref a1), .val (.int (Int32.ofNat pn))] [(.int (((Int32.ofNat pn) * (7 : Int32)) + (6 : Int32))), (.ref w3), (.int (((Int32.ofNat pn) * (7 : Int32)) + (6 : Int32))), (.ref w3)])) rfl rfl (hb hby d14_12) _ ?_
    show Steps p.tables e below (T4.setTop (mkF m 13 #[.val (.ref a1), .val (.int (Int32.ofNat pn))] [(.long w5), (.int (((Int32.ofNat pn) * (7 : Int32)) + (6 : Int32))), (.ref w3)])) _
    refine XS.lconst X4.here hx rfl (hb hby d14_13) ?_
    show Steps p.tables e below (T4.setTop (mkF m 14 #[.val (.ref a1), .val (.int (Int32.ofNat pn))] [(.long (1 : Int64)), (.long w5), (.int (((Int32.ofNat pn) * (7 : Int32)) + (6 : Int32))), (.ref w3)])) _
    refine XS.ladd X4.here hx rfl (hb hby d14_14) rfl ?_
    show Steps p.tables e below (T4.setTop (mkF m 15 #[.val (.ref a1), .val (.int (Int32.ofNat pn))] [(.long (w5 + (1 : Int64))), (.int (((Int32.ofNat pn) * (7 : Int32)) + (6 : Int32))), (.ref w3)])) _
    refine st6 _ ?_
    show Steps p.tables e below (T6.setTop (mkF m 16 #[.val (.ref a1), .val (.int (Int32.ofNat pn))] [])) _
    exact X6.returnOut hx Bd.returns (hb hby d14_16) hr
  · show QA Z w3 (own_upd f (7 * pn + 6) (w5 + (1 : Int64))) h0 n0 _ T6.heap _
    rw [e6]
    exact ⟨rfl, N6, K6, own_st Ar_w3 S_w3 V_w3 ((own_ix pn hpn 6 (by decide)).1 ▸ W6)⟩

def Q15 (Z : State) (w6 w8 w10 w12 w14 w16 w18 : Int64) (h0 : Heap) (n0 : Nat) (v : Option Value) (h : Heap) (L : List Loc) : Prop := ∃ b : Addr, v = some (.ref b) ∧ Fr n0 L ∧ Keep h0 h [] ∧ Exa Z h b "com/example/vestry/vestry/rules/Allocated" ∧ Fld Z h b "com/example/vestry/vestry/rules/Allocated" "compensation" "J" (.long w6) ∧ Fld Z h b "com/example/vestry/vestry/rules/Allocated" "cappedCompensation" "J" (.long w8) ∧ Fld Z h b "com/example/vestry/vestry/rules/Allocated" "deferrals" "J" (.long w10) ∧ Fld Z h b "com/example/vestry/vestry/rules/Allocated" "catchUp" "J" (.long w12) ∧ Fld Z h b "com/example/vestry/vestry/rules/Allocated" "excessDeferrals" "J" (.long w14) ∧ Fld Z h b "com/example/vestry/vestry/rules/Allocated" "match" "J" (.long w16) ∧ Fld Z h b "com/example/vestry/vestry/rules/Allocated" "profitSharing" "J" (.long w18)
theorem d15_0 : decode prog_95_method_3_code 0 = .ok (.iload_n 1, 1) := by decide +kernel
theorem d15_1 : decode prog_95_method_3_code 1 = .ok (.bipush 7, 2) := by decide +kernel
theorem d15_3 : decode prog_95_method_3_code 3 = .ok (.imul, 1) := by decide +kernel
theorem d15_4 : decode prog_95_method_3_code 4 = .ok (.istore_n 2, 1) := by decide +kernel
theorem d15_5 : decode prog_95_method_3_code 5 = .ok (.new 28, 3) := by decide +kernel
theorem d15_8 : decode prog_95_method_3_code 8 = .ok (.dup, 1) := by decide +kernel
theorem d15_9 : decode prog_95_method_3_code 9 = .ok (.aload_n 0, 1) := by decide +kernel
theorem d15_10 : decode prog_95_method_3_code 10 = .ok (.getfield 19, 3) := by decide +kernel
theorem d15_13 : decode prog_95_method_3_code 13 = .ok (.iload_n 2, 1) := by decide +kernel
theorem d15_14 : decode prog_95_method_3_code 14 = .ok (.iconst 0, 1) := by decide +kernel
theorem d15_15 : decode prog_95_method_3_code 15 = .ok (.iadd, 1) := by decide +kernel
theorem d15_16 : decode prog_95_method_3_code 16 = .ok (.laload, 1) := by decide +kernel
theorem d15_17 : decode prog_95_method_3_code 17 = .ok (.aload_n 0, 1) := by decide +kernel
theorem d15_18 : decode prog_95_method_3_code 18 = .ok (.getfield 19, 3) := by decide +kernel
theorem d15_21 : decode prog_95_method_3_code 21 = .ok (.iload_n 2, 1) := by decide +kernel
theorem d15_22 : decode prog_95_method_3_code 22 = .ok (.iconst 1, 1) := by decide +kernel
theorem d15_23 : decode prog_95_method_3_code 23 = .ok (.iadd, 1) := by decide +kernel
theorem d15_24 : decode prog_95_method_3_code 24 = .ok (.laload, 1) := by decide +kernel
theorem d15_25 : decode prog_95_method_3_code 25 = .ok (.aload_n 0, 1) := by decide +kernel
theorem d15_26 : decode prog_95_method_3_code 26 = .ok (.getfield 19, 3) := by decide +kernel
theorem d15_29 : decode prog_95_method_3_code 29 = .ok (.iload_n 2, 1) := by decide +kernel
theorem d15_30 : decode prog_95_method_3_code 30 = .ok (.iconst 2, 1) := by decide +kernel
theorem d15_31 : decode prog_95_method_3_code 31 = .ok (.iadd, 1) := by decide +kernel
theorem d15_32 : decode prog_95_method_3_code 32 = .ok (.laload, 1) := by decide +kernel
theorem d15_33 : decode prog_95_method_3_code 33 = .ok (.aload_n 0, 1) := by decide +kernel
theorem d15_34 : decode prog_95_method_3_code 34 = .ok (.getfield 19, 3) := by decide +kernel
theorem d15_37 : decode prog_95_method_3_code 37 = .ok (.iload_n 2, 1) := by decide +kernel
theorem d15_38 : decode prog_95_method_3_code 38 = .ok (.iconst 3, 1) := by decide +kernel
theorem d15_39 : decode prog_95_method_3_code 39 = .ok (.iadd, 1) := by decide +kernel
theorem d15_40 : decode prog_95_method_3_code 40 = .ok (.laload, 1) := by decide +kernel
theorem d15_41 : decode prog_95_method_3_code 41 = .ok (.aload_n 0, 1) := by decide +kernel
theorem d15_42 : decode prog_95_method_3_code 42 = .ok (.getfield 19, 3) := by decide +kernel
theorem d15_45 : decode prog_95_method_3_code 45 = .ok (.iload_n 2, 1) := by decide +kernel
theorem d15_46 : decode prog_95_method_3_code 46 = .ok (.iconst 4, 1) := by decide +kernel
theorem d15_47 : decode prog_95_method_3_code 47 = .ok (.iadd, 1) := by decide +kernel
theorem d15_48 : decode prog_95_method_3_code 48 = .ok (.laload, 1) := by decide +kernel
theorem d15_49 : decode prog_95_method_3_code 49 = .ok (.aload_n 0, 1) := by decide +kernel
theorem d15_50 : decode prog_95_method_3_code 50 = .ok (.getfield 19, 3) := by decide +kernel
theorem d15_53 : decode prog_95_method_3_code 53 = .ok (.iload_n 2, 1) := by decide +kernel
theorem d15_54 : decode prog_95_method_3_code 54 = .ok (.iconst 5, 1) := by decide +kernel
theorem d15_55 : decode prog_95_method_3_code 55 = .ok (.iadd, 1) := by decide +kernel
theorem d15_56 : decode prog_95_method_3_code 56 = .ok (.laload, 1) := by decide +kernel
theorem d15_57 : decode prog_95_method_3_code 57 = .ok (.aload_n 0, 1) := by decide +kernel
theorem d15_58 : decode prog_95_method_3_code 58 = .ok (.getfield 19, 3) := by decide +kernel
theorem d15_61 : decode prog_95_method_3_code 61 = .ok (.iload_n 2, 1) := by decide +kernel
theorem d15_62 : decode prog_95_method_3_code 62 = .ok (.bipush 6, 2) := by decide +kernel
theorem d15_64 : decode prog_95_method_3_code 64 = .ok (.iadd, 1) := by decide +kernel
theorem d15_65 : decode prog_95_method_3_code 65 = .ok (.laload, 1) := by decide +kernel
theorem d15_66 : decode prog_95_method_3_code 66 = .ok (.invokespecial 30, 3) := by decide +kernel
theorem d15_69 : decode prog_95_method_3_code 69 = .ok (.areturn, 1) := by decide +kernel
theorem pn_15 : plainName "com/example/vestry/vestry/rules/Allocations" = true := by first | (simp [plainName, overriddenIn]; done) | decide +kernel
theorem pd_15_3 : parseMethodDescriptor "(JJJJJJJ)V" = some ⟨[.long, .long, .long, .long, .long, .long, .long], none⟩ := by decide +kernel
theorem ef_15 (m : MethodId) (x0 : Addr) (x1 : Int32) : entryFrame m #[(.ref x0), (.int x1)] 3 = mkF m 0 #[.val (.ref x0), .val (.int x1), .unset] [] := by first | (simp [entryFrame, mkF, argsToLocals, Value.category]; done) | rfl
set_option maxRecDepth 65536 in
set_option maxHeartbeats 40000000 in
theorem rm15 (l : Launch) (Z : State) (a0 : Array Value) (hw : ∀ d ∈ tables_1, d.before a0 Z = true) (ws : List Jvm.Cond) (a1 : Addr) (pn : Nat) (hpn : pn < 3) (w4 : Addr) (w6 : Int64) (f : Nat → Int64) (w8 : Int64) (w10 : Int64) (w12 : Int64) (w14 : Int64) (w16 : Int64) (w18 : Int64) (h0 : Heap) (n0 : Nat) (Z0 : n0 ≤ h0.size) (F_cents_a1 : Fld Z h0 a1 "com/example/vestry/vestry/rules/Allocations" "cents" "[J" (.ref w4)) (A_w4 : own_A Z h0 w4 f) (hv0 : f (7 * pn + 0) = w6) (hv1 : f (7 * pn + 1) = w8) (hv2 : f (7 * pn + 2) = w10) (hv3 : f (7 * pn + 3) = w12) (hv4 : f (7 * pn + 4) = w14) (hv5 : f (7 * pn + 5) = w16) (hv6 : f (7 * pn + 6) = w18) :
    MetFree l (⟨"com/example/vestry/vestry/rules/Allocations", "of", "(I)Lcom/example/vestry/vestry/rules/Allocated;"⟩ : MethodName) (head1 (Jvm.Cond.code (⟨"com/example/vestry/vestry/rules/Allocations", "of", "(I)Lcom/example/vestry/vestry/rules/Allocated;"⟩ : MethodName) prog_95_method_3_code 3 (some (.object "com/example/vestry/vestry/rules/Allocated")) :: ws) ({ frames := 3, cells := 1, slots := 7, locals := 51 } : Room)) (fun a U => a = #[(.ref a1), (.int (Int32.ofNat pn))] ∧ Z.Warmed39 U.vm ∧ U.heap = h0) (fun _ _ _ _ _ => True) (fun _ U o U' => ∃ v L, o = .returned v ∧ Q15 Z w6 w8 w10 w12 w14 w16 w18 h0 n0 v U'.heap L ∧ FrameEnd U o U' L ({ frames := 3, cells := 1, slots := 7, locals := 51 } : Room).cells ({ frames := 3, cells := 1, slots := 7, locals := 51 } : Room).slots) := by
  refine MetFree.of_bodySF (plainFor_of_name pn_15) hisR ?_
  intro p e s m args below meth c s₁ Bd hml0 hP hK
  obtain ⟨rfl, hZ, hh⟩ := hP
  have hx := Bd.exec
  have hby := Bd.bytes
  have hml : c.maxLocals = 3 := hml0
  have hown : s.vm.findClass "com/example/vestry/vestry/rules/Allocations" = some m.cls := findClass_of_methodNamed Bd.named
  have hnm := (name_of_methodNamed Bd.named Bd.method).1
  have X0 : Stand p l e ({ frames := 3, cells := 1, slots := 7, locals := 51 } : Room) s m #[(.ref a1), (.int (Int32.ofNat pn))] below meth c s₁ [] 0 0 := Stand.of_body Bd
  have e0 : s₁.heap = h0 := by rw [← hh, Bd.state]; rfl
  have N0 := Fr.nil n0
  have pre0 : ∀ t, Steps p.tables e below (s₁.setTop (mkF m 0 #[.val (.ref a1), .val (.int (Int32.ofNat pn)), .unset] [])) t → Steps p.tables e below (s₁.setTop (entryFrame m #[(.ref a1), (.int (Int32.ofNat pn))] 3)) t := fun t k => castTop (ef_15 m a1 (Int32.ofNat pn)) k
  obtain ⟨T3, h3, X3, e3, E3, A3, D3, -, st3⟩ := newO X0 hx hZ hown (hw _ (List.mem_of_getElem? (i := 101) rfl)) (hw _ (List.mem_of_getElem? (i := 21) rfl)) (hw _ (List.mem_of_getElem? (i := 22) rfl)) e0 (g := (mkF m 5 #[.val (.ref a1), .val (.int (Int32.ofNat pn)), .val (.int ((Int32.ofNat pn) * (7 : Int32)))] [])) rfl (hb hby d15_5) (by decide) (by decide)
  obtain ⟨b3, g3⟩ : ∃ z, z = h0.size := ⟨_, rfl⟩
  rw [← g3] at A3 D3 st3
  have F_compensation_b3 : Fld Z h3 b3 "com/example/vestry/vestry/rules/Allocated" "compensation" "J" (.long (0 : Int64)) := D3 (Or.inr (hw _ (List.mem_of_getElem? (i := 38) rfl))) (ty := .long) (by decide)
  have F_cappedCompensation_b3 : Fld Z h3 b3 "com/example/vestry/vestry/rules/Allocated" "cappedCompensation" "J" (.long (0 : Int64)) := D3 (Or.inr (hw _ (List.mem_of_getElem? (i := 40) rfl))) (ty := .long) (by decide)
  have F_deferrals_b3 : Fld Z h3 b3 "com/example/vestry/vestry/rules/Allocated" "deferrals" "J" (.long (0 : Int64)) := D3 (Or.inr (hw _ (List.mem_of_getElem? (i := 42) rfl))) (ty := .long) (by decide)
  have F_catchUp_b3 : Fld Z h3 b3 "com/example/vestry/vestry/rules/Allocated" "catchUp" "J" (.long (0 : Int64)) := D3 (Or.inr (hw _ (List.mem_of_getElem? (i := 44) rfl))) (ty := .long) (by decide)
  have F_excessDeferrals_b3 : Fld Z h3 b3 "com/example/vestry/vestry/rules/Allocated" "excessDeferrals" "J" (.long (0 : Int64)) := D3 (Or.inr (hw _ (List.mem_of_getElem? (i := 46) rfl))) (ty := .long) (by decide)
  have F_match_b3 : Fld Z h3 b3 "com/example/vestry/vestry/rules/Allocated" "match" "J" (.long (0 : Int64)) := D3 (Or.inr (hw _ (List.mem_of_getElem? (i := 48) rfl))) (ty := .long) (by decide)
  have F_profitSharing_b3 : Fld Z h3 b3 "com/example/vestry/vestry/rules/Allocated" "profitSharing" "J" (.long (0 : Int64)) := D3 (Or.inr (hw _ (List.mem_of_getElem? (i := 50) rfl))) (ty := .long) (by decide)
  have E_b3 := A3
  have g_b3 : n0 ≤ b3 := Nat.le_trans Z0 (Nat.le_of_eq g3.symm)
  have sz_b3 : h0.size ≤ b3 := (Nat.le_trans (Keep.refl h0 []).1 (Nat.le_of_eq g3.symm))
  obtain ⟨cl_w4, Ar_w4, S_w4, V_w4⟩ := A_w4.ext E3
  have hin16 := own_in (k := 0) hpn (by decide) S_w4
  have hat16 := own_at (k := 0) hpn (by decide) V_w4 hv0
  have hin24 := own_in (k := 1) hpn (by decide) S_w4
  have hat24 := own_at (k := 1) hpn (by decide) V_w4 hv1
  have hin32 := own_in (k := 2) hpn (by decide) S_w4
  have hat32 := own_at (k := 2) hpn (by decide) V_w4 hv2
  have hin40 := own_in (k := 3) hpn (by decide) S_w4
  have hat40 := own_at (k := 3) hpn (by decide) V_w4 hv3
  have hin48 := own_in (k := 4) hpn (by decide) S_w4
  have hat48 := own_at (k := 4) hpn (by decide) V_w4 hv4
  have hin56 := own_in (k := 5) hpn (by decide) S_w4
  have hat56 := own_at (k := 5) hpn (by decide) V_w4 hv5
  have hin65 := own_in (k := 6) hpn (by decide) S_w4
  have hat65 := own_at (k := 6) hpn (by decide) V_w4 hv6
  have K3 : Keep h0 h3 [] := (Keep.refl h0 []).ext E3
  obtain ⟨T5, X5, e5, st5⟩ := getF X3 hx hZ hown (host := "") (Or.inl (hw _ (List.mem_of_getElem? (i := 18) rfl))) Via.refl e3 (F_cents_a1.ext E3) (g := (mkF m 10 #[.val (.ref a1), .val (.int (Int32.ofNat pn)), .val (.int ((Int32.ofNat pn) * (7 : Int32)))] [(.ref a1), (.ref b3), (.ref b3)])) rfl rfl (hb hby d15_10)
  obtain ⟨T7, X7, e7, st7⟩ := getF X5 hx hZ hown (host := "") (Or.inl (hw _ (List.mem_of_getElem? (i := 18) rfl))) Via.refl e5 (F_cents_a1.ext E3) (g := (mkF m 18 #[.val (.ref a1), .val (.int (Int32.ofNat pn)), .val (.int ((Int32.ofNat pn) * (7 : Int32)))] [(.ref a1), (.long w6), (.ref b3), (.ref b3)])) rfl rfl (hb hby d15_18)
  obtain ⟨T9, X9, e9, st9⟩ := getF X7 hx hZ hown (host := "") (Or.inl (hw _ (List.mem_of_getElem? (i := 18) rfl))) Via.refl e7 (F_cents_a1.ext E3) (g := (mkF m 26 #[.val (.ref a1), .val (.int (Int32.ofNat pn)), .val (.int ((Int32.ofNat pn) * (7 : Int32)))] [(.ref a1), (.long w8), (.long w6), (.ref b3), (.ref b3)])) rfl rfl (hb hby d15_26)
  obtain ⟨T11, X11, e11, st11⟩ := getF X9 hx hZ hown (host := "") (Or.inl (hw _ (List.mem_of_getElem? (i := 18) rfl))) Via.refl e9 (F_cents_a1.ext E3) (g := (mkF m 34 #[.val (.ref a1), .val (.int (Int32.ofNat pn)), .val (.int ((Int32.ofNat pn) * (7 : Int32)))] [(.ref a1), (.long w10), (.long w8), (.long w6), (.ref b3), (.ref b3)])) rfl rfl (hb hby d15_34)
  obtain ⟨T13, X13, e13, st13⟩ := getF X11 hx hZ hown (host := "") (Or.inl (hw _ (List.mem_of_getElem? (i := 18) rfl))) Via.refl e11 (F_cents_a1.ext E3) (g := (mkF m 42 #[.val (.ref a1), .val (.int (Int32.ofNat pn)), .val (.int ((Int32.ofNat pn) * (7 : Int32)))] [(.ref a1), (.long w12), (.long w10), (.long w8), (.long w6), (.ref b3), (.ref b3)])) rfl rfl (hb hby d15_42)
  obtain ⟨T15, X15, e15, st15⟩ := getF X13 hx hZ hown (host := "") (Or.inl (hw _ (List.mem_of_getElem? (i := 18) rfl))) Via.refl e13 (F_cents_a1.ext E3) (g := (mkF m 50 #[.val (.ref a1), .val (.int (Int32.ofNat pn)), .val (.int ((Int32.ofNat pn) * (7 : Int32)))] [(.ref a1), (.long w14), (.long w12), (.long w10), (.long w8), (.long w6), (.ref b3), (.ref b3)])) rfl rfl (hb hby d15_50)
  obtain ⟨T17, X17, e17, st17⟩ := getF X15 hx hZ hown (host := "") (Or.inl (hw _ (List.mem_of_getElem? (i := 18) rfl))) Via.refl e15 (F_cents_a1.ext E3) (g := (mkF m 58 #[.val (.ref a1), .val (.int (Int32.ofNat pn)), .val (.int ((Int32.ofNat pn) * (7 : Int32)))] [(.ref a1), (.long w16), (.long w14), (.long w12), (.long w10), (.long w8), (.long w6), (.ref b3), (.ref b3)])) rfl rfl (hb hby d15_58)
  obtain ⟨_, _, ⟨T19, L19, k19, n19⟩, -, X19, ⟨Lc19, hQ19, l19, y19, z19⟩, st19⟩ := X17.specialBack hx (y := (⟨"com/example/vestry/vestry/rules/Allocated", "<init>", "(JJJJJJJ)V"⟩ : MethodName)) rfl hown (mvT hZ (hw _ (List.mem_of_getElem? (i := 102) rfl))) (mvT hZ (hw _ (List.mem_of_getElem? (i := 29) rfl))) (mvT hZ (hw _ (List.mem_of_getElem? (i := 30) rfl))) (by decide) (backOf (W := 1) (rm4 l Z a0 hw [] b3 w6 w8 w10 w12 w14 w16 w18 _ _ _ _ _ _ _ h3 n0 (Nat.le_trans Z0 E3.1) E_b3 F_compensation_b3 g_b3 F_cappedCompensation_b3 F_deferrals_b3 F_catchUp_b3 F_excessDeferrals_b3 F_match_b3 F_profitSharing_b3) hZ (hw _ (List.mem_of_getElem? (i := 30) rfl)) (hw _ (List.mem_of_getElem? (i := 22) rfl)) (by decide) (by decide)) (g := (mkF m 66 #[.val (.ref a1), .val (.int (Int32.ofNat pn)), .val (.int ((Int32.ofNat pn) * (7 : Int32)))] [(.long w18), (.long w16), (.long w14), (.long w12), (.long w10), (.long w8), (.long w6), (.ref b3), (.ref b3)])) rfl (by rw [hml]; rfl) (Steps.refl _) (a := b3) (argsL := [(.long w6), (.long w8), (.long w10), (.long w12), (.long w14), (.long w16), (.long w18)]) (rest := [(.ref b3)]) (lenOf pd_15_3 rfl) rfl (by show 2 * 0 + _ ≤ _; exact Nat.le_of_eq rfl) (hb hby d15_66) (fun _ _ => ⟨rfl, e17, (by decide : 1 + 0 ≤ _), (by decide : 7 + 0 ≤ _)⟩)
  dsimp only [Pt.U, Pt.locs, Pt.cells, Pt.slots] at X19 l19 y19 z19 st19 hQ19
  subst l19 y19 z19
  obtain ⟨rfl, N19q, K19, E19, F0, F1, F2, F3, F4, F5, F6⟩ := hQ19
  have N19 := Fr.app N0 N19q
  obtain ⟨fs, hr, hrun, hended, hW, hsame⟩ := X19.leave (v := some (.ref b3)) (fun h => by rw [Bd.returns] at h; cases h)
  refine ⟨_, _, pre0 _ ?_, hrun, hended, _, _, rfl, ?_, ⟨_, rfl⟩, hW, hsame.mono (by decide) (by decide)⟩
  · show Steps p.tables e below (s₁.setTop (mkF m 0 #[.val (.ref a1), .val (.int (Int32.ofNat pn)), .unset] [])) _
    refine XS.iloadN X0.here hx rfl (hb hby d15_0) rfl ?_
    show Steps p.tables e below (s₁.setTop (mkF m 1 #[.val (.ref a1), .val (.int (Int32.ofNat pn)), .unset] [(.int (Int32.ofNat pn))])) _
    refine XS.bipush X0.here hx rfl (hb hby d15_1) ?_
    show Steps p.tables e below (s₁.setTop (mkF m 3 #[.val (.ref a1), .val (.int (Int32.ofNat pn)), .unset] [(.int (7 : Int32)), (.int (Int32.ofNat pn))])) _
    refine XS.imul X0.here hx rfl (hb hby d15_3) rfl ?_
    show Steps p.tables e below (s₁.setTop (mkF m 4 #[.val (.ref a1), .val (.int (Int32.ofNat pn)), .unset] [(.int ((Int32.ofNat pn) * (7 : Int32)))])) _
    refine XS.istoreN X0.here hx rfl (hb hby d15_4) rfl (l' := #[.val (.ref a1), .val (.int (Int32.ofNat pn)), .val (.int ((Int32.ofNat pn) * (7 : Int32)))]) rfl ?_
    show Steps p.tables e below (s₁.setTop (mkF m 5 #[.val (.ref a1), .val (.int (Int32.ofNat pn)), .val (.int ((Int32.ofNat pn) * (7 : Int32)))] [])) _
    refine st3 _ ?_
    show Steps p.tables e below (T3.setTop (mkF m 8 #[.val (.ref a1), .val (.int (Int32.ofNat pn)), .val (.int ((Int32.ofNat pn) * (7 : Int32)))] [(.ref b3)])) _
    refine XS.dup X3.here hx rfl (hb hby d15_8) rfl rfl ?_
    show Steps p.tables e below (T3.setTop (mkF m 9 #[.val (.ref a1), .val (.int (Int32.ofNat pn)), .val (.int ((Int32.ofNat pn) * (7 : Int32)))] [(.ref b3), (.ref b3)])) _
    refine XS.aloadN X3.here hx rfl (hb hby d15_9) rfl rfl ?_
    show Steps p.tables e below (T3.setTop (mkF m 10 #[.val (.ref a1), .val (.int (Int32.ofNat pn)), .val (.int ((Int32.ofNat pn) * (7 : Int32)))] [(.ref a1), (.ref b3), (.ref b3)])) _
    refine st5 _ ?_
    show Steps p.tables e below (T5.setTop (mkF m 13 #[.val (.ref a1), .val (.int (Int32.ofNat pn)), .val (.int ((Int32.ofNat pn) * (7 : Int32)))] [(.ref w4), (.ref b3), (.ref b3)])) _
    refine XS.iloadN X5.here hx rfl (hb hby d15_13) rfl ?_
    show Steps p.tables e below (T5.setTop (mkF m 14 #[.val (.ref a1), .val (.int (Int32.ofNat pn)), .val (.int ((Int32.ofNat pn) * (7 : Int32)))] [(.int ((Int32.ofNat pn) * (7 : Int32))), (.ref w4), (.ref b3), (.ref b3)])) _
    refine XS.iconst X5.here hx rfl (hb hby d15_14) ?_
    show Steps p.tables e below (T5.setTop (mkF m 15 #[.val (.ref a1), .val (.int (Int32.ofNat pn)), .val (.int ((Int32.ofNat pn) * (7 : Int32)))] [(.int (0 : Int32)), (.int ((Int32.ofNat pn) * (7 : Int32))), (.ref w4), (.ref b3), (.ref b3)])) _
    refine XS.iadd X5.here hx rfl (hb hby d15_15) rfl ?_
    show Steps p.tables e below (T5.setTop (mkF m 16 #[.val (.ref a1), .val (.int (Int32.ofNat pn)), .val (.int ((Int32.ofNat pn) * (7 : Int32)))] [(.int (((Int32.ofNat pn) * (7 : Int32)) + (0 : Int32))), (.ref w4), (.ref b3), (.ref b3)])) _
    refine X5.laload hx (j := (((Int32.ofNat pn) * (7 : Int32)) + (0 : Int32))) (v := (.long w6)) (by rw [e5]; exact Ar_w4.1) (State.isArrayOf_alike hZ.alike Ar_w4.2.1) Ar_w4.2.2 hin16 hat16 (g := (mkF m 16 #[.val (.ref a1), .val (.int (Int32.ofNat pn)), .val (.int ((Int32.ofNat pn) * (7 : Int32)))] [(.int (((Int32.ofNat pn) * (7 : Int32)) + (0 : Int32))), (.ref w4), (.ref b3), (.ref b3)])) rfl rfl (hb hby d15_16) _ ?_
    show Steps p.tables e below (T5.setTop (mkF m 17 #[.val (.ref a1), .val (.int (Int32.ofNat pn)), .val (.int ((Int32.ofNat pn) * (7 : Int32)))] [(.long w6), (.ref b3), (.ref b3)])) _
    refine XS.aloadN X5.here hx rfl (hb hby d15_17) rfl rfl ?_
    show Steps p.tables e below (T5.setTop (mkF m 18 #[.val (.ref a1), .val (.int (Int32.ofNat pn)), .val (.int ((Int32.ofNat pn) * (7 : Int32)))] [(.ref a1), (.long w6), (.ref b3), (.ref b3)])) _
    refine st7 _ ?_
    show Steps p.tables e below (T7.setTop (mkF m 21 #[.val (.ref a1), .val (.int (Int32.ofNat pn)), .val (.int ((Int32.ofNat pn) * (7 : Int32)))] [(.ref w4), (.long w6), (.ref b3), (.ref b3)])) _
    refine XS.iloadN X7.here hx rfl (hb hby d15_21) rfl ?_
    show Steps p.tables e below (T7.setTop (mkF m 22 #[.val (.ref a1), .val (.int (Int32.ofNat pn)), .val (.int ((Int32.ofNat pn) * (7 : Int32)))] [(.int ((Int32.ofNat pn) * (7 : Int32))), (.ref w4), (.long w6), (.ref b3), (.ref b3)])) _
    refine XS.iconst X7.here hx rfl (hb hby d15_22) ?_
    show Steps p.tables e below (T7.setTop (mkF m 23 #[.val (.ref a1), .val (.int (Int32.ofNat pn)), .val (.int ((Int32.ofNat pn) * (7 : Int32)))] [(.int (1 : Int32)), (.int ((Int32.ofNat pn) * (7 : Int32))), (.ref w4), (.long w6), (.ref b3), (.ref b3)])) _
    refine XS.iadd X7.here hx rfl (hb hby d15_23) rfl ?_
    show Steps p.tables e below (T7.setTop (mkF m 24 #[.val (.ref a1), .val (.int (Int32.ofNat pn)), .val (.int ((Int32.ofNat pn) * (7 : Int32)))] [(.int (((Int32.ofNat pn) * (7 : Int32)) + (1 : Int32))), (.ref w4), (.long w6), (.ref b3), (.ref b3)])) _
    refine X7.laload hx (j := (((Int32.ofNat pn) * (7 : Int32)) + (1 : Int32))) (v := (.long w8)) (by rw [e7]; exact Ar_w4.1) (State.isArrayOf_alike hZ.alike Ar_w4.2.1) Ar_w4.2.2 hin24 hat24 (g := (mkF m 24 #[.val (.ref a1), .val (.int (Int32.ofNat pn)), .val (.int ((Int32.ofNat pn) * (7 : Int32)))] [(.int (((Int32.ofNat pn) * (7 : Int32)) + (1 : Int32))), (.ref w4), (.long w6), (.ref b3), (.ref b3)])) rfl rfl (hb hby d15_24) _ ?_
    show Steps p.tables e below (T7.setTop (mkF m 25 #[.val (.ref a1), .val (.int (Int32.ofNat pn)), .val (.int ((Int32.ofNat pn) * (7 : Int32)))] [(.long w8), (.long w6), (.ref b3), (.ref b3)])) _
    refine XS.aloadN X7.here hx rfl (hb hby d15_25) rfl rfl ?_
    show Steps p.tables e below (T7.setTop (mkF m 26 #[.val (.ref a1), .val (.int (Int32.ofNat pn)), .val (.int ((Int32.ofNat pn) * (7 : Int32)))] [(.ref a1), (.long w8), (.long w6), (.ref b3), (.ref b3)])) _
    refine st9 _ ?_
    show Steps p.tables e below (T9.setTop (mkF m 29 #[.val (.ref a1), .val (.int (Int32.ofNat pn)), .val (.int ((Int32.ofNat pn) * (7 : Int32)))] [(.ref w4), (.long w8), (.long w6), (.ref b3), (.ref b3)])) _
    refine XS.iloadN X9.here hx rfl (hb hby d15_29) rfl ?_
    show Steps p.tables e below (T9.setTop (mkF m 30 #[.val (.ref a1), .val (.int (Int32.ofNat pn)), .val (.int ((Int32.ofNat pn) * (7 : Int32)))] [(.int ((Int32.ofNat pn) * (7 : Int32))), (.ref w4), (.long w8), (.long w6), (.ref b3), (.ref b3)])) _
    refine XS.iconst X9.here hx rfl (hb hby d15_30) ?_
    show Steps p.tables e below (T9.setTop (mkF m 31 #[.val (.ref a1), .val (.int (Int32.ofNat pn)), .val (.int ((Int32.ofNat pn) * (7 : Int32)))] [(.int (2 : Int32)), (.int ((Int32.ofNat pn) * (7 : Int32))), (.ref w4), (.long w8), (.long w6), (.ref b3), (.ref b3)])) _
    refine XS.iadd X9.here hx rfl (hb hby d15_31) rfl ?_
    show Steps p.tables e below (T9.setTop (mkF m 32 #[.val (.ref a1), .val (.int (Int32.ofNat pn)), .val (.int ((Int32.ofNat pn) * (7 : Int32)))] [(.int (((Int32.ofNat pn) * (7 : Int32)) + (2 : Int32))), (.ref w4), (.long w8), (.long w6), (.ref b3), (.ref b3)])) _
    refine X9.laload hx (j := (((Int32.ofNat pn) * (7 : Int32)) + (2 : Int32))) (v := (.long w10)) (by rw [e9]; exact Ar_w4.1) (State.isArrayOf_alike hZ.alike Ar_w4.2.1) Ar_w4.2.2 hin32 hat32 (g := (mkF m 32 #[.val (.ref a1), .val (.int (Int32.ofNat pn)), .val (.int ((Int32.ofNat pn) * (7 : Int32)))] [(.int (((Int32.ofNat pn) * (7 : Int32)) + (2 : Int32))), (.ref w4), (.long w8), (.long w6), (.ref b3), (.ref b3)])) rfl rfl (hb hby d15_32) _ ?_
    show Steps p.tables e below (T9.setTop (mkF m 33 #[.val (.ref a1), .val (.int (Int32.ofNat pn)), .val (.int ((Int32.ofNat pn) * (7 : Int32)))] [(.long w10), (.long w8), (.long w6), (.ref b3), (.ref b3)])) _
    refine XS.aloadN X9.here hx rfl (hb hby d15_33) rfl rfl ?_
    show Steps p.tables e below (T9.setTop (mkF m 34 #[.val (.ref a1), .val (.int (Int32.ofNat pn)), .val (.int ((Int32.ofNat pn) * (7 : Int32)))] [(.ref a1), (.long w10), (.long w8), (.long w6), (.ref b3), (.ref b3)])) _
    refine st11 _ ?_
    show Steps p.tables e below (T11.setTop (mkF m 37 #[.val (.ref a1), .val (.int (Int32.ofNat pn)), .val (.int ((Int32.ofNat pn) * (7 : Int32)))] [(.ref w4), (.long w10), (.long w8), (.long w6), (.ref b3), (.ref b3)])) _
    refine XS.iloadN X11.here hx rfl (hb hby d15_37) rfl ?_
    show Steps p.tables e below (T11.setTop (mkF m 38 #[.val (.ref a1), .val (.int (Int32.ofNat pn)), .val (.int ((Int32.ofNat pn) * (7 : Int32)))] [(.int ((Int32.ofNat pn) * (7 : Int32))), (.ref w4), (.long w10), (.long w8), (.long w6), (.ref b3), (.ref b3)])) _
    refine XS.iconst X11.here hx rfl (hb hby d15_38) ?_
    show Steps p.tables e below (T11.setTop (mkF m 39 #[.val (.ref a1), .val (.int (Int32.ofNat pn)), .val (.int ((Int32.ofNat pn) * (7 : Int32)))] [(.int (3 : Int32)), (.int ((Int32.ofNat pn) * (7 : Int32))), (.ref w4), (.long w10), (.long w8), (.long w6), (.ref b3), (.ref b3)])) _
    refine XS.iadd X11.here hx rfl (hb hby d15_39) rfl ?_
    show Steps p.tables e below (T11.setTop (mkF m 40 #[.val (.ref a1), .val (.int (Int32.ofNat pn)), .val (.int ((Int32.ofNat pn) * (7 : Int32)))] [(.int (((Int32.ofNat pn) * (7 : Int32)) + (3 : Int32))), (.ref w4), (.long w10), (.long w8), (.long w6), (.ref b3), (.ref b3)])) _
    refine X11.laload hx (j := (((Int32.ofNat pn) * (7 : Int32)) + (3 : Int32))) (v := (.long w12)) (by rw [e11]; exact Ar_w4.1) (State.isArrayOf_alike hZ.alike Ar_w4.2.1) Ar_w4.2.2 hin40 hat40 (g := (mkF m 40 #[.val (.ref a1), .val (.int (Int32.ofNat pn)), .val (.int ((Int32.ofNat pn) * (7 : Int32)))] [(.int (((Int32.ofNat pn) * (7 : Int32)) + (3 : Int32))), (.ref w4), (.long w10), (.long w8), (.long w6), (.ref b3), (.ref b3)])) rfl rfl (hb hby d15_40) _ ?_
    show Steps p.tables e below (T11.setTop (mkF m 41 #[.val (.ref a1), .val (.int (Int32.ofNat pn)), .val (.int ((Int32.ofNat pn) * (7 : Int32)))] [(.long w12), (.long w10), (.long w8), (.long w6), (.ref b3), (.ref b3)])) _
    refine XS.aloadN X11.here hx rfl (hb hby d15_41) rfl rfl ?_
    show Steps p.tables e below (T11.setTop (mkF m 42 #[.val (.ref a1), .val (.int (Int32.ofNat pn)), .val (.int ((Int32.ofNat pn) * (7 : Int32)))] [(.ref a1), (.long w12), (.long w10), (.long w8), (.long w6), (.ref b3), (.ref b3)])) _
    refine st13 _ ?_
    show Steps p.tables e below (T13.setTop (mkF m 45 #[.val (.ref a1), .val (.int (Int32.ofNat pn)), .val (.int ((Int32.ofNat pn) * (7 : Int32)))] [(.ref w4), (.long w12), (.long w10), (.long w8), (.long w6), (.ref b3), (.ref b3)])) _
    refine XS.iloadN X13.here hx rfl (hb hby d15_45) rfl ?_
    show Steps p.tables e below (T13.setTop (mkF m 46 #[.val (.ref a1), .val (.int (Int32.ofNat pn)), .val (.int ((Int32.ofNat pn) * (7 : Int32)))] [(.int ((Int32.ofNat pn) * (7 : Int32))), (.ref w4), (.long w12), (.long w10), (.long w8), (.long w6), (.ref b3), (.ref b3)])) _
    refine XS.iconst X13.here hx rfl (hb hby d15_46) ?_
    show Steps p.tables e below (T13.setTop (mkF m 47 #[.val (.ref a1), .val (.int (Int32.ofNat pn)), .val (.int ((Int32.ofNat pn) * (7 : Int32)))] [(.int (4 : Int32)), (.int ((Int32.ofNat pn) * (7 : Int32))), (.ref w4), (.long w12), (.long w10), (.long w8), (.long w6), (.ref b3), (.ref b3)])) _
    refine XS.iadd X13.here hx rfl (hb hby d15_47) rfl ?_
    show Steps p.tables e below (T13.setTop (mkF m 48 #[.val (.ref a1), .val (.int (Int32.ofNat pn)), .val (.int ((Int32.ofNat pn) * (7 : Int32)))] [(.int (((Int32.ofNat pn) * (7 : Int32)) + (4 : Int32))), (.ref w4), (.long w12), (.long w10), (.long w8), (.long w6), (.ref b3), (.ref b3)])) _
    refine X13.laload hx (j := (((Int32.ofNat pn) * (7 : Int32)) + (4 : Int32))) (v := (.long w14)) (by rw [e13]; exact Ar_w4.1) (State.isArrayOf_alike hZ.alike Ar_w4.2.1) Ar_w4.2.2 hin48 hat48 (g := (mkF m 48 #[.val (.ref a1), .val (.int (Int32.ofNat pn)), .val (.int ((Int32.ofNat pn) * (7 : Int32)))] [(.int (((Int32.ofNat pn) * (7 : Int32)) + (4 : Int32))), (.ref w4), (.long w12), (.long w10), (.long w8), (.long w6), (.ref b3), (.ref b3)])) rfl rfl (hb hby d15_48) _ ?_
    show Steps p.tables e below (T13.setTop (mkF m 49 #[.val (.ref a1), .val (.int (Int32.ofNat pn)), .val (.int ((Int32.ofNat pn) * (7 : Int32)))] [(.long w14), (.long w12), (.long w10), (.long w8), (.long w6), (.ref b3), (.ref b3)])) _
    refine XS.aloadN X13.here hx rfl (hb hby d15_49) rfl rfl ?_
    show Steps p.tables e below (T13.setTop (mkF m 50 #[.val (.ref a1), .val (.int (Int32.ofNat pn)), .val (.int ((Int32.ofNat pn) * (7 : Int32)))] [(.ref a1), (.long w14), (.long w12), (.long w10), (.long w8), (.long w6), (.ref b3), (.ref b3)])) _
    refine st15 _ ?_
    show Steps p.tables e below (T15.setTop (mkF m 53 #[.val (.ref a1), .val (.int (Int32.ofNat pn)), .val (.int ((Int32.ofNat pn) * (7 : Int32)))] [(.ref w4), (.long w14), (.long w12), (.long w10), (.long w8), (.long w6), (.ref b3), (.ref b3)])) _
    refine XS.iloadN X15.here hx rfl (hb hby d15_53) rfl ?_
    show Steps p.tables e below (T15.setTop (mkF m 54 #[.val (.ref a1), .val (.int (Int32.ofNat pn)), .val (.int ((Int32.ofNat pn) * (7 : Int32)))] [(.int ((Int32.ofNat pn) * (7 : Int32))), (.ref w4), (.long w14), (.long w12), (.long w10), (.long w8), (.long w6), (.ref b3), (.ref b3)])) _
    refine XS.iconst X15.here hx rfl (hb hby d15_54) ?_
    show Steps p.tables e below (T15.setTop (mkF m 55 #[.val (.ref a1), .val (.int (Int32.ofNat pn)), .val (.int ((Int32.ofNat pn) * (7 : Int32)))] [(.int (5 : Int32)), (.int ((Int32.ofNat pn) * (7 : Int32))), (.ref w4), (.long w14), (.long w12), (.long w10), (.long w8), (.long w6), (.ref b3), (.ref b3)])) _
    refine XS.iadd X15.here hx rfl (hb hby d15_55) rfl ?_
    show Steps p.tables e below (T15.setTop (mkF m 56 #[.val (.ref a1), .val (.int (Int32.ofNat pn)), .val (.int ((Int32.ofNat pn) * (7 : Int32)))] [(.int (((Int32.ofNat pn) * (7 : Int32)) + (5 : Int32))), (.ref w4), (.long w14), (.long w12), (.long w10), (.long w8), (.long w6), (.ref b3), (.ref b3)])) _
    refine X15.laload hx (j := (((Int32.ofNat pn) * (7 : Int32)) + (5 : Int32))) (v := (.long w16)) (by rw [e15]; exact Ar_w4.1) (State.isArrayOf_alike hZ.alike Ar_w4.2.1) Ar_w4.2.2 hin56 hat56 (g := (mkF m 56 #[.val (.ref a1), .val (.int (Int32.ofNat pn)), .val (.int ((Int32.ofNat pn) * (7 : Int32)))] [(.int (((Int32.ofNat pn) * (7 : Int32)) + (5 : Int32))), (.ref w4), (.long w14), (.long w12), (.long w10), (.long w8), (.long w6), (.ref b3), (.ref b3)])) rfl rfl (hb hby d15_56) _ ?_
    show Steps p.tables e below (T15.setTop (mkF m 57 #[.val (.ref a1), .val (.int (Int32.ofNat pn)), .val (.int ((Int32.ofNat pn) * (7 : Int32)))] [(.long w16), (.long w14), (.long w12), (.long w10), (.long w8), (.long w6), (.ref b3), (.ref b3)])) _
    refine XS.aloadN X15.here hx rfl (hb hby d15_57) rfl rfl ?_
    show Steps p.tables e below (T15.setTop (mkF m 58 #[.val (.ref a1), .val (.int (Int32.ofNat pn)), .val (.int ((Int32.ofNat pn) * (7 : Int32)))] [(.ref a1), (.long w16), (.long w14), (.long w12), (.long w10), (.long w8), (.long w6), (.ref b3), (.ref b3)])) _
    refine st17 _ ?_
    show Steps p.tables e below (T17.setTop (mkF m 61 #[.val (.ref a1), .val (.int (Int32.ofNat pn)), .val (.int ((Int32.ofNat pn) * (7 : Int32)))] [(.ref w4), (.long w16), (.long w14), (.long w12), (.long w10), (.long w8), (.long w6), (.ref b3), (.ref b3)])) _
    refine XS.iloadN X17.here hx rfl (hb hby d15_61) rfl ?_
    show Steps p.tables e below (T17.setTop (mkF m 62 #[.val (.ref a1), .val (.int (Int32.ofNat pn)), .val (.int ((Int32.ofNat pn) * (7 : Int32)))] [(.int ((Int32.ofNat pn) * (7 : Int32))), (.ref w4), (.long w16), (.long w14), (.long w12), (.long w10), (.long w8), (.long w6), (.ref b3), (.ref b3)])) _
    refine XS.bipush X17.here hx rfl (hb hby d15_62) ?_
    show Steps p.tables e below (T17.setTop (mkF m 64 #[.val (.ref a1), .val (.int (Int32.ofNat pn)), .val (.int ((Int32.ofNat pn) * (7 : Int32)))] [(.int (6 : Int32)), (.int ((Int32.ofNat pn) * (7 : Int32))), (.ref w4), (.long w16), (.long w14), (.long w12), (.long w10), (.long w8), (.long w6), (.ref b3), (.ref b3)])) _
    refine XS.iadd X17.here hx rfl (hb hby d15_64) rfl ?_
    show Steps p.tables e below (T17.setTop (mkF m 65 #[.val (.ref a1), .val (.int (Int32.ofNat pn)), .val (.int ((Int32.ofNat pn) * (7 : Int32)))] [(.int (((Int32.ofNat pn) * (7 : Int32)) + (6 : Int32))), (.ref w4), (.long w16), (.long w14), (.long w12), (.long w10), (.long w8), (.long w6), (.ref b3), (.ref b3)])) _
    refine X17.laload hx (j := (((Int32.ofNat pn) * (7 : Int32)) + (6 : Int32))) (v := (.long w18)) (by rw [e17]; exact Ar_w4.1) (State.isArrayOf_alike hZ.alike Ar_w4.2.1) Ar_w4.2.2 hin65 hat65 (g := (mkF m 65 #[.val (.ref a1), .val (.int (Int32.ofNat pn)), .val (.int ((Int32.ofNat pn) * (7 : Int32)))] [(.int (((Int32.ofNat pn) * (7 : Int32)) + (6 : Int32))), (.ref w4), (.long w16), (.long w14), (.long w12), (.long w10), (.long w8), (.long w6), (.ref b3), (.ref b3)])) rfl rfl (hb hby d15_65) _ ?_
    show Steps p.tables e below (T17.setTop (mkF m 66 #[.val (.ref a1), .val (.int (Int32.ofNat pn)), .val (.int ((Int32.ofNat pn) * (7 : Int32)))] [(.long w18), (.long w16), (.long w14), (.long w12), (.long w10), (.long w8), (.long w6), (.ref b3), (.ref b3)])) _
    refine st19.trans ?_
    show Steps p.tables e below (T19.setTop (mkF m 69 #[.val (.ref a1), .val (.int (Int32.ofNat pn)), .val (.int ((Int32.ofNat pn) * (7 : Int32)))] [(.ref b3)])) _
    jvm_step X19.here [X19.here.top, hx, (hb hby d15_69), X19.method', Bd.returns, Value.isRef, FieldType.isReference]
    first | (intro acts; rw [hr _ acts rfl rfl rfl]) | rw [hr _ _ rfl rfl rfl]
    exact Steps.refl _
  · show Q15 Z w6 w8 w10 w12 w14 w16 w18 h0 n0 _ T19.heap _
    exact ⟨b3, rfl, N19, K3.trans K19 (allS (Or.inr sz_b3) all0), E19, F0, F1, F2, F3, F4, F5, F6⟩

theorem d17_0 : decode method_2_code 0 = .ok (.aload_n 0, 1) := by decide +kernel
theorem d17_1 : decode method_2_code 1 = .ok (.invokevirtual 7, 3) := by decide +kernel
theorem d17_4 : decode method_2_code 4 = .ok (.lconst 0, 1) := by decide +kernel
theorem d17_5 : decode method_2_code 5 = .ok (.lcmp, 1) := by decide +kernel
theorem d17_6 : decode method_2_code 6 = .ok (.ifCond .ne 52, 3) := by decide +kernel
theorem d17_9 : decode method_2_code 9 = .ok (.aload_n 0, 1) := by decide +kernel
theorem d17_10 : decode method_2_code 10 = .ok (.invokevirtual 13, 3) := by decide +kernel
theorem d17_13 : decode method_2_code 13 = .ok (.lconst 0, 1) := by decide +kernel
theorem d17_14 : decode method_2_code 14 = .ok (.lcmp, 1) := by decide +kernel
theorem d17_15 : decode method_2_code 15 = .ok (.ifCond .ne 43, 3) := by decide +kernel
theorem d17_18 : decode method_2_code 18 = .ok (.aload_n 0, 1) := by decide +kernel
theorem d17_19 : decode method_2_code 19 = .ok (.invokevirtual 16, 3) := by decide +kernel
theorem d17_22 : decode method_2_code 22 = .ok (.lconst 0, 1) := by decide +kernel
theorem d17_23 : decode method_2_code 23 = .ok (.lcmp, 1) := by decide +kernel
theorem d17_24 : decode method_2_code 24 = .ok (.ifCond .ne 34, 3) := by decide +kernel
theorem d17_27 : decode method_2_code 27 = .ok (.aload_n 0, 1) := by decide +kernel
theorem d17_28 : decode method_2_code 28 = .ok (.invokevirtual 19, 3) := by decide +kernel
theorem d17_31 : decode method_2_code 31 = .ok (.lconst 0, 1) := by decide +kernel
theorem d17_32 : decode method_2_code 32 = .ok (.lcmp, 1) := by decide +kernel
theorem d17_33 : decode method_2_code 33 = .ok (.ifCond .ne 25, 3) := by decide +kernel
theorem d17_36 : decode method_2_code 36 = .ok (.aload_n 0, 1) := by decide +kernel
theorem d17_37 : decode method_2_code 37 = .ok (.invokevirtual 22, 3) := by decide +kernel
theorem d17_40 : decode method_2_code 40 = .ok (.lconst 0, 1) := by decide +kernel
theorem d17_41 : decode method_2_code 41 = .ok (.lcmp, 1) := by decide +kernel
theorem d17_42 : decode method_2_code 42 = .ok (.ifCond .ne 16, 3) := by decide +kernel
theorem d17_45 : decode method_2_code 45 = .ok (.aload_n 0, 1) := by decide +kernel
theorem d17_46 : decode method_2_code 46 = .ok (.invokevirtual 25, 3) := by decide +kernel
theorem d17_49 : decode method_2_code 49 = .ok (.lconst 0, 1) := by decide +kernel
theorem d17_50 : decode method_2_code 50 = .ok (.lcmp, 1) := by decide +kernel
theorem d17_51 : decode method_2_code 51 = .ok (.ifCond .ne 7, 3) := by decide +kernel
theorem d17_54 : decode method_2_code 54 = .ok (.iconst 1, 1) := by decide +kernel
theorem d17_55 : decode method_2_code 55 = .ok (.goto 4, 3) := by decide +kernel
theorem d17_59 : decode method_2_code 59 = .ok (.ireturn, 1) := by decide +kernel
theorem pn_17 : plainName "com/example/vestry/vestry/rules/AllocationsAddProfitSharingCentPinLaw" = true := by first | (simp [plainName, overriddenIn]; done) | decide +kernel
theorem pd_17_5 : parseMethodDescriptor "()J" = some ⟨[], some .long⟩ := by decide +kernel
theorem ef_17 (m : MethodId) (x0 : Addr) : entryFrame m #[(.ref x0)] 1 = mkF m 0 #[.val (.ref x0)] [] := by first | (simp [entryFrame, mkF, argsToLocals, Value.category]; done) | rfl
set_option maxRecDepth 65536 in
set_option maxHeartbeats 40000000 in
theorem rm17 (l : Launch) (Z : State) (a0 : Array Value) (hw : ∀ d ∈ tables_1, d.before a0 Z = true) (ws : List Jvm.Cond) (a1 : Addr) (h0 : Heap) (n0 : Nat) (Z0 : n0 ≤ h0.size) (E_a1 : Exa Z h0 a1 "com/example/vestry/vestry/rules/Allocated") (G0 : Fld Z h0 a1 "com/example/vestry/vestry/rules/Allocated" "compensation" "J" (.long (0 : Int64))) (G1 : Fld Z h0 a1 "com/example/vestry/vestry/rules/Allocated" "cappedCompensation" "J" (.long (0 : Int64))) (G2 : Fld Z h0 a1 "com/example/vestry/vestry/rules/Allocated" "deferrals" "J" (.long (0 : Int64))) (G3 : Fld Z h0 a1 "com/example/vestry/vestry/rules/Allocated" "catchUp" "J" (.long (0 : Int64))) (G4 : Fld Z h0 a1 "com/example/vestry/vestry/rules/Allocated" "excessDeferrals" "J" (.long (0 : Int64))) (G5 : Fld Z h0 a1 "com/example/vestry/vestry/rules/Allocated" "match" "J" (.long (0 : Int64))) :
    MetFree l (⟨"com/example/vestry/vestry/rules/AllocationsAddProfitSharingCentPinLaw", "zeroSave", "(Lcom/example/vestry/vestry/rules/Allocated;)Z"⟩ : MethodName) (head1 (Jvm.Cond.code (⟨"com/example/vestry/vestry/rules/AllocationsAddProfitSharingCentPinLaw", "zeroSave", "(Lcom/example/vestry/vestry/rules/Allocated;)Z"⟩ : MethodName) method_2_code 1 (some .boolean) :: ws) ({ frames := 1, cells := 0, slots := 0, locals := 12 } : Room)) (fun a U => a = #[(.ref a1)] ∧ Z.Warmed39 U.vm ∧ U.heap = h0) (fun _ _ _ _ _ => True) (fun _ U o U' => ∃ v L, o = .returned v ∧ QR (.int (1 : Int32)) h0 n0 v U'.heap L ∧ FrameEnd U o U' L ({ frames := 1, cells := 0, slots := 0, locals := 12 } : Room).cells ({ frames := 1, cells := 0, slots := 0, locals := 12 } : Room).slots) := by
  refine MetFree.of_bodySF (plainFor_of_name pn_17) hisR ?_
  intro p e s m args below meth c s₁ Bd hml0 hP hK
  obtain ⟨rfl, hZ, hh⟩ := hP
  have hx := Bd.exec
  have hby := Bd.bytes
  have hml : c.maxLocals = 1 := hml0
  have hown : s.vm.findClass "com/example/vestry/vestry/rules/AllocationsAddProfitSharingCentPinLaw" = some m.cls := findClass_of_methodNamed Bd.named
  have hnm := (name_of_methodNamed Bd.named Bd.method).1
  have X0 : Stand p l e ({ frames := 1, cells := 0, slots := 0, locals := 12 } : Room) s m #[(.ref a1)] below meth c s₁ [] 0 0 := Stand.of_body Bd
  have e0 : s₁.heap = h0 := by rw [← hh, Bd.state]; rfl
  have N0 := Fr.nil n0
  have pre0 : ∀ t, Steps p.tables e below (s₁.setTop (mkF m 0 #[.val (.ref a1)] [])) t → Steps p.tables e below (s₁.setTop (entryFrame m #[(.ref a1)] 1)) t := fun t k => castTop (ef_17 m a1) k
  obtain ⟨cq2, kq2, q2a, q2b, q2c⟩ := isOf hZ e0 (E_a1)
  obtain ⟨_, _, ⟨T2, L2, k2, n2⟩, -, X2, ⟨Lc2, hQ2, l2, y2, z2⟩, st2⟩ := X0.virtualBack hx (y := (⟨"com/example/vestry/vestry/rules/Allocated", "compensation", "()J"⟩ : MethodName)) (z := (⟨"com/example/vestry/vestry/rules/Allocated", "compensation", "()J"⟩ : MethodName)) hown (mvT hZ (hw _ (List.mem_of_getElem? (i := 103) rfl))) (mvT hZ (hw _ (List.mem_of_getElem? (i := 57) rfl))) (notFace_of_selects (args := #[]) (mvT hZ (hw _ (List.mem_of_getElem? (i := 59) rfl)))) (mvT hZ (hw _ (List.mem_of_getElem? (i := 59) rfl))) (mvT hZ (hw _ (List.mem_of_getElem? (i := 58) rfl))) (by decide) (backOf (W := 0) (rm7 l Z a0 hw [] a1 _ h0 n0 Z0 G0) hZ (hw _ (List.mem_of_getElem? (i := 60) rfl)) (hw _ (List.mem_of_getElem? (i := 22) rfl)) (by decide) (by decide)) q2a q2c (g := (mkF m 1 #[.val (.ref a1)] [(.ref a1)])) rfl (by rw [hml]; rfl) (Steps.refl _) (argsL := []) (rest := []) (lenOf pd_17_5 rfl) rfl (by show 2 * 0 + _ ≤ _; exact Nat.le_of_eq rfl) (hb hby d17_1) (fun _ _ => ⟨rfl, e0, (by decide : 0 + 0 ≤ _), (by decide : 0 + 0 ≤ _)⟩)
  dsimp only [Pt.U, Pt.locs, Pt.cells, Pt.slots] at X2 l2 y2 z2 st2 hQ2
  subst l2 y2 z2
  obtain ⟨rfl, N2q, e2⟩ := hQ2
  have N2 := Fr.app N0 N2q
  obtain ⟨cq3, kq3, q3a, q3b, q3c⟩ := isOf hZ e2 (E_a1)
  obtain ⟨_, _, ⟨T3, L3, k3, n3⟩, -, X3, ⟨Lc3, hQ3, l3, y3, z3⟩, st3⟩ := X2.virtualBack hx (y := (⟨"com/example/vestry/vestry/rules/Allocated", "cappedCompensation", "()J"⟩ : MethodName)) (z := (⟨"com/example/vestry/vestry/rules/Allocated", "cappedCompensation", "()J"⟩ : MethodName)) hown (mvT hZ (hw _ (List.mem_of_getElem? (i := 104) rfl))) (mvT hZ (hw _ (List.mem_of_getElem? (i := 62) rfl))) (notFace_of_selects (args := #[]) (mvT hZ (hw _ (List.mem_of_getElem? (i := 64) rfl)))) (mvT hZ (hw _ (List.mem_of_getElem? (i := 64) rfl))) (mvT hZ (hw _ (List.mem_of_getElem? (i := 63) rfl))) (by decide) (backOf (W := 0) (rm8 l Z a0 hw [] a1 _ h0 n0 Z0 G1) hZ (hw _ (List.mem_of_getElem? (i := 65) rfl)) (hw _ (List.mem_of_getElem? (i := 22) rfl)) (by decide) (by decide)) q3a q3c (g := (mkF m 10 #[.val (.ref a1)] [(.ref a1)])) rfl (by rw [hml]; rfl) (Steps.refl _) (argsL := []) (rest := []) (lenOf pd_17_5 rfl) rfl (by show 2 * 0 + _ ≤ _; exact Nat.le_of_eq rfl) (hb hby d17_10) (fun _ _ => ⟨rfl, e2, (by decide : 0 + 0 ≤ _), (by decide : 0 + 0 ≤ _)⟩)
  dsimp only [Pt.U, Pt.locs, Pt.cells, Pt.slots] at X3 l3 y3 z3 st3 hQ3
  subst l3 y3 z3
  obtain ⟨rfl, N3q, e3⟩ := hQ3
  have N3 := Fr.app N2 N3q
  obtain ⟨cq4, kq4, q4a, q4b, q4c⟩ := isOf hZ e3 (E_a1)
  obtain ⟨_, _, ⟨T4, L4, k4, n4⟩, -, X4, ⟨Lc4, hQ4, l4, y4, z4⟩, st4⟩ := X3.virtualBack hx (y := (⟨"com/example/vestry/vestry/rules/Allocated", "deferrals", "()J"⟩ : MethodName)) (z := (⟨"com/example/vestry/vestry/rules/Allocated", "deferrals", "()J"⟩ : MethodName)) hown (mvT hZ (hw _ (List.mem_of_getElem? (i := 105) rfl))) (mvT hZ (hw _ (List.mem_of_getElem? (i := 67) rfl))) (notFace_of_selects (args := #[]) (mvT hZ (hw _ (List.mem_of_getElem? (i := 69) rfl)))) (mvT hZ (hw _ (List.mem_of_getElem? (i := 69) rfl))) (mvT hZ (hw _ (List.mem_of_getElem? (i := 68) rfl))) (by decide) (backOf (W := 0) (rm9 l Z a0 hw [] a1 _ h0 n0 Z0 G2) hZ (hw _ (List.mem_of_getElem? (i := 70) rfl)) (hw _ (List.mem_of_getElem? (i := 22) rfl)) (by decide) (by decide)) q4a q4c (g := (mkF m 19 #[.val (.ref a1)] [(.ref a1)])) rfl (by rw [hml]; rfl) (Steps.refl _) (argsL := []) (rest := []) (lenOf pd_17_5 rfl) rfl (by show 2 * 0 + _ ≤ _; exact Nat.le_of_eq rfl) (hb hby d17_19) (fun _ _ => ⟨rfl, e3, (by decide : 0 + 0 ≤ _), (by decide : 0 + 0 ≤ _)⟩)
  dsimp only [Pt.U, Pt.locs, Pt.cells, Pt.slots] at X4 l4 y4 z4 st4 hQ4
  subst l4 y4 z4
  obtain ⟨rfl, N4q, e4⟩ := hQ4
  have N4 := Fr.app N3 N4q
  obtain ⟨cq5, kq5, q5a, q5b, q5c⟩ := isOf hZ e4 (E_a1)
  obtain ⟨_, _, ⟨T5, L5, k5, n5⟩, -, X5, ⟨Lc5, hQ5, l5, y5, z5⟩, st5⟩ := X4.virtualBack hx (y := (⟨"com/example/vestry/vestry/rules/Allocated", "catchUp", "()J"⟩ : MethodName)) (z := (⟨"com/example/vestry/vestry/rules/Allocated", "catchUp", "()J"⟩ : MethodName)) hown (mvT hZ (hw _ (List.mem_of_getElem? (i := 106) rfl))) (mvT hZ (hw _ (List.mem_of_getElem? (i := 72) rfl))) (notFace_of_selects (args := #[]) (mvT hZ (hw _ (List.mem_of_getElem? (i := 74) rfl)))) (mvT hZ (hw _ (List.mem_of_getElem? (i := 74) rfl))) (mvT hZ (hw _ (List.mem_of_getElem? (i := 73) rfl))) (by decide) (backOf (W := 0) (rm10 l Z a0 hw [] a1 _ h0 n0 Z0 G3) hZ (hw _ (List.mem_of_getElem? (i := 75) rfl)) (hw _ (List.mem_of_getElem? (i := 22) rfl)) (by decide) (by decide)) q5a q5c (g := (mkF m 28 #[.val (.ref a1)] [(.ref a1)])) rfl (by rw [hml]; rfl) (Steps.refl _) (argsL := []) (rest := []) (lenOf pd_17_5 rfl) rfl (by show 2 * 0 + _ ≤ _; exact Nat.le_of_eq rfl) (hb hby d17_28) (fun _ _ => ⟨rfl, e4, (by decide : 0 + 0 ≤ _), (by decide : 0 + 0 ≤ _)⟩)
  dsimp only [Pt.U, Pt.locs, Pt.cells, Pt.slots] at X5 l5 y5 z5 st5 hQ5
  subst l5 y5 z5
  obtain ⟨rfl, N5q, e5⟩ := hQ5
  have N5 := Fr.app N4 N5q
  obtain ⟨cq6, kq6, q6a, q6b, q6c⟩ := isOf hZ e5 (E_a1)
  obtain ⟨_, _, ⟨T6, L6, k6, n6⟩, -, X6, ⟨Lc6, hQ6, l6, y6, z6⟩, st6⟩ := X5.virtualBack hx (y := (⟨"com/example/vestry/vestry/rules/Allocated", "excessDeferrals", "()J"⟩ : MethodName)) (z := (⟨"com/example/vestry/vestry/rules/Allocated", "excessDeferrals", "()J"⟩ : MethodName)) hown (mvT hZ (hw _ (List.mem_of_getElem? (i := 107) rfl))) (mvT hZ (hw _ (List.mem_of_getElem? (i := 77) rfl))) (notFace_of_selects (args := #[]) (mvT hZ (hw _ (List.mem_of_getElem? (i := 79) rfl)))) (mvT hZ (hw _ (List.mem_of_getElem? (i := 79) rfl))) (mvT hZ (hw _ (List.mem_of_getElem? (i := 78) rfl))) (by decide) (backOf (W := 0) (rm11 l Z a0 hw [] a1 _ h0 n0 Z0 G4) hZ (hw _ (List.mem_of_getElem? (i := 80) rfl)) (hw _ (List.mem_of_getElem? (i := 22) rfl)) (by decide) (by decide)) q6a q6c (g := (mkF m 37 #[.val (.ref a1)] [(.ref a1)])) rfl (by rw [hml]; rfl) (Steps.refl _) (argsL := []) (rest := []) (lenOf pd_17_5 rfl) rfl (by show 2 * 0 + _ ≤ _; exact Nat.le_of_eq rfl) (hb hby d17_37) (fun _ _ => ⟨rfl, e5, (by decide : 0 + 0 ≤ _), (by decide : 0 + 0 ≤ _)⟩)
  dsimp only [Pt.U, Pt.locs, Pt.cells, Pt.slots] at X6 l6 y6 z6 st6 hQ6
  subst l6 y6 z6
  obtain ⟨rfl, N6q, e6⟩ := hQ6
  have N6 := Fr.app N5 N6q
  obtain ⟨cq7, kq7, q7a, q7b, q7c⟩ := isOf hZ e6 (E_a1)
  obtain ⟨_, _, ⟨T7, L7, k7, n7⟩, -, X7, ⟨Lc7, hQ7, l7, y7, z7⟩, st7⟩ := X6.virtualBack hx (y := (⟨"com/example/vestry/vestry/rules/Allocated", "match", "()J"⟩ : MethodName)) (z := (⟨"com/example/vestry/vestry/rules/Allocated", "match", "()J"⟩ : MethodName)) hown (mvT hZ (hw _ (List.mem_of_getElem? (i := 108) rfl))) (mvT hZ (hw _ (List.mem_of_getElem? (i := 82) rfl))) (notFace_of_selects (args := #[]) (mvT hZ (hw _ (List.mem_of_getElem? (i := 84) rfl)))) (mvT hZ (hw _ (List.mem_of_getElem? (i := 84) rfl))) (mvT hZ (hw _ (List.mem_of_getElem? (i := 83) rfl))) (by decide) (backOf (W := 0) (rm12 l Z a0 hw [] a1 _ h0 n0 Z0 G5) hZ (hw _ (List.mem_of_getElem? (i := 85) rfl)) (hw _ (List.mem_of_getElem? (i := 22) rfl)) (by decide) (by decide)) q7a q7c (g := (mkF m 46 #[.val (.ref a1)] [(.ref a1)])) rfl (by rw [hml]; rfl) (Steps.refl _) (argsL := []) (rest := []) (lenOf pd_17_5 rfl) rfl (by show 2 * 0 + _ ≤ _; exact Nat.le_of_eq rfl) (hb hby d17_46) (fun _ _ => ⟨rfl, e6, (by decide : 0 + 0 ≤ _), (by decide : 0 + 0 ≤ _)⟩)
  dsimp only [Pt.U, Pt.locs, Pt.cells, Pt.slots] at X7 l7 y7 z7 st7 hQ7
  subst l7 y7 z7
  obtain ⟨rfl, N7q, e7⟩ := hQ7
  have N7 := Fr.app N6 N7q
  obtain ⟨fs, hr, hrun, hended, hW, hsame⟩ := X7.leave (v := some (.int (1 : Int32))) (fun h => by rw [Bd.returns] at h; cases h)
  refine ⟨_, _, pre0 _ ?_, hrun, hended, _, _, rfl, ?_, ⟨_, rfl⟩, hW, hsame.mono (by decide) (by decide)⟩
  · show Steps p.tables e below (s₁.setTop (mkF m 0 #[.val (.ref a1)] [])) _
    refine XS.aloadN X0.here hx rfl (hb hby d17_0) rfl rfl ?_
    show Steps p.tables e below (s₁.setTop (mkF m 1 #[.val (.ref a1)] [(.ref a1)])) _
    refine st2.trans ?_
    show Steps p.tables e below (T2.setTop (mkF m 4 #[.val (.ref a1)] [(.long (0 : Int64))])) _
    refine XS.lconst X2.here hx rfl (hb hby d17_4) ?_
    show Steps p.tables e below (T2.setTop (mkF m 5 #[.val (.ref a1)] [(.long (0 : Int64)), (.long (0 : Int64))])) _
    refine XS.lcmp X2.here hx rfl (hb hby d17_5) rfl ?_
    show Steps p.tables e below (T2.setTop (mkF m 6 #[.val (.ref a1)] [(.int (lcmpW (0 : Int64) (0 : Int64)))])) _
    refine XS.ifNo X2.here hx rfl (hb hby d17_6) rfl ((if0 _ _).trans (teq ((lw_eq _ _).mpr rfl : (lcmpW (0 : Int64) (0 : Int64)) = (0 : Int32))).2) ?_
    show Steps p.tables e below (T2.setTop (mkF m 9 #[.val (.ref a1)] [])) _
    refine XS.aloadN X2.here hx rfl (hb hby d17_9) rfl rfl ?_
    show Steps p.tables e below (T2.setTop (mkF m 10 #[.val (.ref a1)] [(.ref a1)])) _
    refine st3.trans ?_
    show Steps p.tables e below (T3.setTop (mkF m 13 #[.val (.ref a1)] [(.long (0 : Int64))])) _
    refine XS.lconst X3.here hx rfl (hb hby d17_13) ?_
    show Steps p.tables e below (T3.setTop (mkF m 14 #[.val (.ref a1)] [(.long (0 : Int64)), (.long (0 : Int64))])) _
    refine XS.lcmp X3.here hx rfl (hb hby d17_14) rfl ?_
    show Steps p.tables e below (T3.setTop (mkF m 15 #[.val (.ref a1)] [(.int (lcmpW (0 : Int64) (0 : Int64)))])) _
    refine XS.ifNo X3.here hx rfl (hb hby d17_15) rfl ((if0 _ _).trans (teq ((lw_eq _ _).mpr rfl : (lcmpW (0 : Int64) (0 : Int64)) = (0 : Int32))).2) ?_
    show Steps p.tables e below (T3.setTop (mkF m 18 #[.val (.ref a1)] [])) _
    refine XS.aloadN X3.here hx rfl (hb hby d17_18) rfl rfl ?_
    show Steps p.tables e below (T3.setTop (mkF m 19 #[.val (.ref a1)] [(.ref a1)])) _
    refine st4.trans ?_
    show Steps p.tables e below (T4.setTop (mkF m 22 #[.val (.ref a1)] [(.long (0 : Int64))])) _
    refine XS.lconst X4.here hx rfl (hb hby d17_22) ?_
    show Steps p.tables e below (T4.setTop (mkF m 23 #[.val (.ref a1)] [(.long (0 : Int64)), (.long (0 : Int64))])) _
    refine XS.lcmp X4.here hx rfl (hb hby d17_23) rfl ?_
    show Steps p.tables e below (T4.setTop (mkF m 24 #[.val (.ref a1)] [(.int (lcmpW (0 : Int64) (0 : Int64)))])) _
    refine XS.ifNo X4.here hx rfl (hb hby d17_24) rfl ((if0 _ _).trans (teq ((lw_eq _ _).mpr rfl : (lcmpW (0 : Int64) (0 : Int64)) = (0 : Int32))).2) ?_
    show Steps p.tables e below (T4.setTop (mkF m 27 #[.val (.ref a1)] [])) _
    refine XS.aloadN X4.here hx rfl (hb hby d17_27) rfl rfl ?_
    show Steps p.tables e below (T4.setTop (mkF m 28 #[.val (.ref a1)] [(.ref a1)])) _
    refine st5.trans ?_
    show Steps p.tables e below (T5.setTop (mkF m 31 #[.val (.ref a1)] [(.long (0 : Int64))])) _
    refine XS.lconst X5.here hx rfl (hb hby d17_31) ?_
    show Steps p.tables e below (T5.setTop (mkF m 32 #[.val (.ref a1)] [(.long (0 : Int64)), (.long (0 : Int64))])) _
    refine XS.lcmp X5.here hx rfl (hb hby d17_32) rfl ?_
    show Steps p.tables e below (T5.setTop (mkF m 33 #[.val (.ref a1)] [(.int (lcmpW (0 : Int64) (0 : Int64)))])) _
    refine XS.ifNo X5.here hx rfl (hb hby d17_33) rfl ((if0 _ _).trans (teq ((lw_eq _ _).mpr rfl : (lcmpW (0 : Int64) (0 : Int64)) = (0 : Int32))).2) ?_
    show Steps p.tables e below (T5.setTop (mkF m 36 #[.val (.ref a1)] [])) _
    refine XS.aloadN X5.here hx rfl (hb hby d17_36) rfl rfl ?_
    show Steps p.tables e below (T5.setTop (mkF m 37 #[.val (.ref a1)] [(.ref a1)])) _
    refine st6.trans ?_
    show Steps p.tables e below (T6.setTop (mkF m 40 #[.val (.ref a1)] [(.long (0 : Int64))])) _
    refine XS.lconst X6.here hx rfl (hb hby d17_40) ?_
    show Steps p.tables e below (T6.setTop (mkF m 41 #[.val (.ref a1)] [(.long (0 : Int64)), (.long (0 : Int64))])) _
    refine XS.lcmp X6.here hx rfl (hb hby d17_41) rfl ?_
    show Steps p.tables e below (T6.setTop (mkF m 42 #[.val (.ref a1)] [(.int (lcmpW (0 : Int64) (0 : Int64)))])) _
    refine XS.ifNo X6.here hx rfl (hb hby d17_42) rfl ((if0 _ _).trans (teq ((lw_eq _ _).mpr rfl : (lcmpW (0 : Int64) (0 : Int64)) = (0 : Int32))).2) ?_
    show Steps p.tables e below (T6.setTop (mkF m 45 #[.val (.ref a1)] [])) _
    refine XS.aloadN X6.here hx rfl (hb hby d17_45) rfl rfl ?_
    show Steps p.tables e below (T6.setTop (mkF m 46 #[.val (.ref a1)] [(.ref a1)])) _
    refine st7.trans ?_
    show Steps p.tables e below (T7.setTop (mkF m 49 #[.val (.ref a1)] [(.long (0 : Int64))])) _
    refine XS.lconst X7.here hx rfl (hb hby d17_49) ?_
    show Steps p.tables e below (T7.setTop (mkF m 50 #[.val (.ref a1)] [(.long (0 : Int64)), (.long (0 : Int64))])) _
    refine XS.lcmp X7.here hx rfl (hb hby d17_50) rfl ?_
    show Steps p.tables e below (T7.setTop (mkF m 51 #[.val (.ref a1)] [(.int (lcmpW (0 : Int64) (0 : Int64)))])) _
    refine XS.ifNo X7.here hx rfl (hb hby d17_51) rfl ((if0 _ _).trans (teq ((lw_eq _ _).mpr rfl : (lcmpW (0 : Int64) (0 : Int64)) = (0 : Int32))).2) ?_
    show Steps p.tables e below (T7.setTop (mkF m 54 #[.val (.ref a1)] [])) _
    refine XS.iconst X7.here hx rfl (hb hby d17_54) ?_
    show Steps p.tables e below (T7.setTop (mkF m 55 #[.val (.ref a1)] [(.int (1 : Int32))])) _
    refine XS.goto X7.here hx rfl (pc0 := 55) (pc' := 59) rfl (hb hby d17_55) (by decide) (by decide) ?_
    show Steps p.tables e below (T7.setTop (mkF m 59 #[.val (.ref a1)] [(.int (1 : Int32))])) _
    exact retN X7 hx (t := .boolean) Bd.returns (by simp) (hb hby d17_59) hr
  · show QR (.int (1 : Int32)) h0 n0 _ T7.heap _
    exact ⟨rfl, N7, e7⟩

theorem pn_0 : plainName "com/example/vestry/vestry/rules/AllocationsAddProfitSharingCentPinLaw" = true := by first | (simp [plainName, overriddenIn]; done) | decide +kernel
theorem pd_0_0 : parseMethodDescriptor "([II)V" = some ⟨[(.array .int), .int], none⟩ := by decide +kernel
theorem pd_0_3 : parseMethodDescriptor "(JJJJJJJ)V" = some ⟨[.long, .long, .long, .long, .long, .long, .long], none⟩ := by decide +kernel
theorem pd_0_4 : parseMethodDescriptor "(ILcom/example/vestry/vestry/rules/Allocated;)V" = some ⟨[.int, (.object "com/example/vestry/vestry/rules/Allocated")], none⟩ := by decide +kernel
theorem pd_0_6 : parseMethodDescriptor "(IJ)V" = some ⟨[.int, .long], none⟩ := by decide +kernel
theorem pd_0_7 : parseMethodDescriptor "(I)V" = some ⟨[.int], none⟩ := by decide +kernel
theorem pd_0_8 : parseMethodDescriptor "(I)Lcom/example/vestry/vestry/rules/Allocated;" = some ⟨[.int], some (.object "com/example/vestry/vestry/rules/Allocated")⟩ := by decide +kernel
theorem pd_0_5 : parseMethodDescriptor "()J" = some ⟨[], some .long⟩ := by decide +kernel
theorem pd_0_9 : parseMethodDescriptor "(Lcom/example/vestry/vestry/rules/Allocated;)Z" = some ⟨[(.object "com/example/vestry/vestry/rules/Allocated")], some .boolean⟩ := by decide +kernel
theorem ef_0 (m : MethodId) (x0 : Int32) (x1 : Int32) (x2 : Int64) (x3 : Int64) (x4 : Int64) : entryFrame m #[(.int x0), (.int x1), (.long x2), (.long x3), (.long x4)] maxLocals = mkF m 0 #[.val (.int x0), .val (.int x1), .val (.long x2), .second, .val (.long x3), .second, .val (.long x4), .second, .unset, .unset, .unset, .unset, .unset, .unset, .unset, .unset, .unset, .unset, .unset] [] := by first | (simp [entryFrame, mkF, argsToLocals, Value.category, maxLocals]; done) | rfl
def Q0 (Z : State) (p1 : Int32) (p2 : Int32) (q3 : Int64) (q4 : Int64) (q5 : Int64) (h0 : Heap) (n0 : Nat) (v : Option Value) (h : Heap) (L : List Loc) : Prop := v = some (.int (1 : Int32)) ∧ Fr n0 L
set_option maxRecDepth 65536 in
set_option maxHeartbeats 40000000 in
theorem rm0 (l : Launch) (Z : State) (a0 : Array Value) (hw : ∀ d ∈ tables_1, d.before a0 Z = true) (ws : List Jvm.Cond) (p1 : Int32) (p2 : Int32) (q3 : Int64) (q4 : Int64) (q5 : Int64) (h0 : Heap) (n0 : Nat) (Z0 : n0 ≤ h0.size) (hc315 : ¬ ((1 : Int32) = (0 : Int32))) (hc320 : ¬ ((1 : Int32) = (0 : Int32))) (hc325 : ¬ ((1 : Int32) = (0 : Int32))) :
    MetFree l x (head1 (Jvm.Cond.code x code maxLocals ret :: ws) room_1) (fun a U => a = #[(.int p1), (.int p2), (.long q3), (.long q4), (.long q5)] ∧ Z.Warmed39 U.vm ∧ U.heap = h0) (fun _ _ _ _ _ => True) (fun _ U o U' => ∃ v L, o = .returned v ∧ Q0 Z p1 p2 q3 q4 q5 h0 n0 v U'.heap L ∧ FrameEnd U o U' L room_1.cells room_1.slots) := by
  refine MetFree.of_bodySF (plainFor_of_name pn_0) hisR ?_
  intro p e s m args below meth c s₁ Bd hml0 hP hK
  obtain ⟨rfl, hZ, hh⟩ := hP
  have hx := Bd.exec
  have hby := Bd.bytes
  have hml : c.maxLocals = 19 := hml0
  have hown : s.vm.findClass "com/example/vestry/vestry/rules/AllocationsAddProfitSharingCentPinLaw" = some m.cls := findClass_of_methodNamed Bd.named
  have hnm := (name_of_methodNamed Bd.named Bd.method).1
  have X0 : Stand p l e room_1 s m #[(.int p1), (.int p2), (.long q3), (.long q4), (.long q5)] below meth c s₁ [] 0 0 := Stand.of_body Bd
  have e0 : s₁.heap = h0 := by rw [← hh, Bd.state]; rfl
  have N0 := Fr.nil n0
  have pre0 : ∀ t, Steps p.tables e below (s₁.setTop (mkF m 0 #[.val (.int p1), .val (.int p2), .val (.long q3), .second, .val (.long q4), .second, .val (.long q5), .second, .unset, .unset, .unset, .unset, .unset, .unset, .unset, .unset, .unset, .unset, .unset] [])) t → Steps p.tables e below (s₁.setTop (entryFrame m #[(.int p1), (.int p2), (.long q3), (.long q4), (.long q5)] maxLocals)) t := fun t k => castTop (ef_0 m p1 p2 q3 q4 q5) k
  obtain ⟨pN, qN, rN, hp3, hq3, hr3, hpq, hpr, hqr, hP, hQ, hR⟩ := own_pqr p1 p2
  obtain ⟨T6, h6, X6, e6, E6, A6, D6, -, st6⟩ := newO X0 hx hZ hown (hw _ (List.mem_of_getElem? (i := 1) rfl)) (hw _ (List.mem_of_getElem? (i := 2) rfl)) (hw _ (List.mem_of_getElem? (i := 3) rfl)) e0 (g := (mkF m 29 #[.val (.int p1), .val (.int p2), .val (.long q3), .second, .val (.long q4), .second, .val (.long q5), .second, .val (.int (Int32.ofNat pN)), .val (.int (Int32.ofNat qN)), .val (.int (Int32.ofNat rN)), .unset, .unset, .unset, .unset, .unset, .unset, .unset, .unset] [])) rfl (hb hby at_29) (by decide) (by decide)
  obtain ⟨b6, g6⟩ : ∃ z, z = h0.size := ⟨_, rfl⟩
  rw [← g6] at A6 D6 st6
  have F_participants_b6 : Fld Z h6 b6 "com/example/vestry/vestry/rules/Allocations" "participants" "[I" .null := D6 (Or.inr (hw _ (List.mem_of_getElem? (i := 12) rfl))) (ty := (.array .int)) (by decide)
  have F_cents_b6 : Fld Z h6 b6 "com/example/vestry/vestry/rules/Allocations" "cents" "[J" .null := D6 (Or.inr (hw _ (List.mem_of_getElem? (i := 19) rfl))) (ty := (.array .long)) (by decide)
  have E_b6 := A6
  have g_b6 : n0 ≤ b6 := Nat.le_trans Z0 (Nat.le_of_eq g6.symm)
  have sz_b6 : h0.size ≤ b6 := (Nat.le_trans (Keep.refl h0 []).1 (Nat.le_of_eq g6.symm))
  have K6 : Keep h0 h6 [] := (Keep.refl h0 []).ext E6
  obtain ⟨T7, h7, k7, X7, e7, E7, A7, st7⟩ := newP X6 hx hZ (hw _ (List.mem_of_getElem? (i := 4) rfl)) e6 (g := (mkF m 34 #[.val (.int p1), .val (.int p2), .val (.long q3), .second, .val (.long q4), .second, .val (.long q5), .second, .val (.int (Int32.ofNat pN)), .val (.int (Int32.ofNat qN)), .val (.int (Int32.ofNat rN)), .unset, .unset, .unset, .unset, .unset, .unset, .unset, .unset] [(.int (3 : Int32)), (.ref b6), (.ref b6)])) rfl (hb hby at_34) rfl (by decide) (cap := 3) (by decide) (by decide) (by decide) (by decide)
  obtain ⟨b7, g7⟩ : ∃ z, z = h6.size := ⟨_, rfl⟩
  rw [← g7] at A7 st7
  have V_b7 : Arv Z h7 b7 k7 .int (3 : Int32) [(.int (0 : Int32)), (.int (0 : Int32)), (.int (0 : Int32))] (.int (0 : Int32)) := (Arv.new A7 (by decide)).pad (pad_rep [] (.int (0 : Int32)) 3)
  have g_b7 : n0 ≤ b7 := Nat.le_trans (Nat.le_trans Z0 E6.1) (Nat.le_of_eq g7.symm)
  have sz_b7 : h0.size ≤ b7 := (Nat.le_trans K6.1 (Nat.le_of_eq g7.symm))
  have K7 : Keep h0 h7 [] := K6.ext E7
  obtain ⟨cl_b7_39, Ar_b7, q_b7, S_b7, N_b7, H_b7, G_b7⟩ := V_b7
  have hin39 : ¬ ((0 : Int32) < 0 ∨ cl_b7_39.slots.size ≤ ((0 : Int32)).toNatClampNeg) := inb_of S_b7 ⟨by decide, by decide⟩
  obtain ⟨T8, h8, X8, e8, W8, st8⟩ := stI X7 hx hZ e7 Ar_b7 (j := (0 : Int32)) hin39 (g := (mkF m 39 #[.val (.int p1), .val (.int p2), .val (.long q3), .second, .val (.long q4), .second, .val (.long q5), .second, .val (.int (Int32.ofNat pN)), .val (.int (Int32.ofNat qN)), .val (.int (Int32.ofNat rN)), .unset, .unset, .unset, .unset, .unset, .unset, .unset, .unset] [(.int (0 : Int32)), (.int (0 : Int32)), (.ref b7), (.ref b7), (.ref b6), (.ref b6)])) rfl rfl (hb hby at_39)
  have V_b7_8 := Arv.set Ar_b7 q_b7 S_b7 N_b7 H_b7 G_b7 rfl W8 0 rfl (Nat.le_of_ble_eq_true rfl)
  have K8 : Keep h0 h8 [] := K7.wr W8 (Or.inr sz_b7)
  have N8 := Fr.snoc X8 N0 g_b7
  obtain ⟨cl_b7_43, Ar_b7, q_b7, S_b7, N_b7, H_b7, G_b7⟩ := V_b7_8
  have hin43 : ¬ ((1 : Int32) < 0 ∨ cl_b7_43.slots.size ≤ ((1 : Int32)).toNatClampNeg) := inb_of S_b7 ⟨by decide, by decide⟩
  obtain ⟨T9, h9, X9, e9, W9, st9⟩ := stI X8 hx hZ e8 Ar_b7 (j := (1 : Int32)) hin43 (g := (mkF m 43 #[.val (.int p1), .val (.int p2), .val (.long q3), .second, .val (.long q4), .second, .val (.long q5), .second, .val (.int (Int32.ofNat pN)), .val (.int (Int32.ofNat qN)), .val (.int (Int32.ofNat rN)), .unset, .unset, .unset, .unset, .unset, .unset, .unset, .unset] [(.int (1 : Int32)), (.int (1 : Int32)), (.ref b7), (.ref b7), (.ref b6), (.ref b6)])) rfl rfl (hb hby at_43)
  have V_b7_9 := Arv.set Ar_b7 q_b7 S_b7 N_b7 H_b7 G_b7 rfl W9 1 rfl (Nat.le_of_ble_eq_true rfl)
  have K9 : Keep h0 h9 [] := K8.wr W9 (Or.inr sz_b7)
  have N9 := Fr.snoc X9 N8 g_b7
  obtain ⟨cl_b7_47, Ar_b7, q_b7, S_b7, N_b7, H_b7, G_b7⟩ := V_b7_9
  have hin47 : ¬ ((2 : Int32) < 0 ∨ cl_b7_47.slots.size ≤ ((2 : Int32)).toNatClampNeg) := inb_of S_b7 ⟨by decide, by decide⟩
  obtain ⟨T10, h10, X10, e10, W10, st10⟩ := stI X9 hx hZ e9 Ar_b7 (j := (2 : Int32)) hin47 (g := (mkF m 47 #[.val (.int p1), .val (.int p2), .val (.long q3), .second, .val (.long q4), .second, .val (.long q5), .second, .val (.int (Int32.ofNat pN)), .val (.int (Int32.ofNat qN)), .val (.int (Int32.ofNat rN)), .unset, .unset, .unset, .unset, .unset, .unset, .unset, .unset] [(.int (2 : Int32)), (.int (2 : Int32)), (.ref b7), (.ref b7), (.ref b6), (.ref b6)])) rfl rfl (hb hby at_47)
  have V_b7_10 := Arv.set Ar_b7 q_b7 S_b7 N_b7 H_b7 G_b7 rfl W10 2 rfl (Nat.le_of_ble_eq_true rfl)
  have K10 : Keep h0 h10 [] := K9.wr W10 (Or.inr sz_b7)
  have N10 := Fr.snoc X10 N9 g_b7
  have ne67 : b6 ≠ b7 := Nat.ne_of_lt (by rw [g7]; exact A6.lt)
  have Z10 : n0 ≤ h10.size := Nat.le_trans Z0 K10.1
  have E10 := (((E_b6.ext E7).wr W8).wr W9).wr W10
  obtain ⟨_, _, ⟨T11, L11, k11, n11⟩, -, X11, ⟨Lc11, hQ11, l11, y11, z11⟩, st11⟩ := X10.specialBack hx (y := (⟨"com/example/vestry/vestry/rules/Allocations", "<init>", "([II)V"⟩ : MethodName)) rfl hown (mvT hZ (hw _ (List.mem_of_getElem? (i := 5) rfl))) (mvT hZ (hw _ (List.mem_of_getElem? (i := 6) rfl))) (mvT hZ (hw _ (List.mem_of_getElem? (i := 7) rfl))) (by decide) (backOf (W := 1) (rm1 l Z a0 hw [] b6 b7 _ _ h10 n0 Z10 E10 (((F_participants_b6.ext E7).other W8 (Or.inl ne67)).other W9 (Or.inl ne67) |>.other W10 (Or.inl ne67)) g_b6 (((F_cents_b6.ext E7).other W8 (Or.inl ne67)).other W9 (Or.inl ne67) |>.other W10 (Or.inl ne67))) hZ (hw _ (List.mem_of_getElem? (i := 7) rfl)) (hw _ (List.mem_of_getElem? (i := 3) rfl)) (by decide) (by decide)) (g := (mkF m 49 #[.val (.int p1), .val (.int p2), .val (.long q3), .second, .val (.long q4), .second, .val (.long q5), .second, .val (.int (Int32.ofNat pN)), .val (.int (Int32.ofNat qN)), .val (.int (Int32.ofNat rN)), .unset, .unset, .unset, .unset, .unset, .unset, .unset, .unset] [(.int (3 : Int32)), (.ref b7), (.ref b6), (.ref b6)])) rfl (by rw [hml]; rfl) (Steps.refl _) (a := b6) (argsL := [(.ref b7), (.int (3 : Int32))]) (rest := [(.ref b6)]) (lenOf pd_0_0 rfl) rfl (by show 2 * 0 + _ ≤ _; exact Nat.le_of_eq rfl) (hb hby at_49) (fun _ _ => ⟨rfl, e10, (by decide : 2 + 1 ≤ _), (by decide : 5 + 21 ≤ _)⟩)
  dsimp only [Pt.U, Pt.locs, Pt.cells, Pt.slots] at X11 l11 y11 z11 st11 hQ11
  obtain rfl : k11 = 3 := y11
  obtain rfl : n11 = 26 := z11
  obtain ⟨rfl, N11q, K11, E11, w, Fc11, A11, gw⟩ := hQ11
  have Z11 : n0 ≤ T11.heap.size := Nat.le_trans Z10 K11.1
  have g_w : n0 ≤ w := Nat.le_trans Z10 gw
  have ne6w : b6 ≠ w := Nat.ne_of_lt (Nat.lt_of_lt_of_le E10.lt gw)
  have K11' : Keep h0 T11.heap [] := K10.trans K11 (allS (Or.inr sz_b6) all0)
  have N11 : Fr n0 L11 := by rw [l11]; exact Fr.app N10 N11q
  obtain ⟨T12, h12, X12, e12, E12, A12, D12, -, st12⟩ := newO X11 hx hZ hown (hw _ (List.mem_of_getElem? (i := 20) rfl)) (hw _ (List.mem_of_getElem? (i := 21) rfl)) (hw _ (List.mem_of_getElem? (i := 22) rfl)) rfl (g := (mkF m 54 #[.val (.int p1), .val (.int p2), .val (.long q3), .second, .val (.long q4), .second, .val (.long q5), .second, .val (.int (Int32.ofNat pN)), .val (.int (Int32.ofNat qN)), .val (.int (Int32.ofNat rN)), .val (.ref b6), .unset, .unset, .unset, .unset, .unset, .unset, .unset] [])) rfl (hb hby at_54) (by decide) (by decide)
  obtain ⟨b12, g12⟩ : ∃ z, z = T11.heap.size := ⟨_, rfl⟩
  rw [← g12] at A12 D12 st12
  have F_compensation_b12 : Fld Z h12 b12 "com/example/vestry/vestry/rules/Allocated" "compensation" "J" (.long (0 : Int64)) := D12 (Or.inr (hw _ (List.mem_of_getElem? (i := 38) rfl))) (ty := .long) (by decide)
  have F_cappedCompensation_b12 : Fld Z h12 b12 "com/example/vestry/vestry/rules/Allocated" "cappedCompensation" "J" (.long (0 : Int64)) := D12 (Or.inr (hw _ (List.mem_of_getElem? (i := 40) rfl))) (ty := .long) (by decide)
  have F_deferrals_b12 : Fld Z h12 b12 "com/example/vestry/vestry/rules/Allocated" "deferrals" "J" (.long (0 : Int64)) := D12 (Or.inr (hw _ (List.mem_of_getElem? (i := 42) rfl))) (ty := .long) (by decide)
  have F_catchUp_b12 : Fld Z h12 b12 "com/example/vestry/vestry/rules/Allocated" "catchUp" "J" (.long (0 : Int64)) := D12 (Or.inr (hw _ (List.mem_of_getElem? (i := 44) rfl))) (ty := .long) (by decide)
  have F_excessDeferrals_b12 : Fld Z h12 b12 "com/example/vestry/vestry/rules/Allocated" "excessDeferrals" "J" (.long (0 : Int64)) := D12 (Or.inr (hw _ (List.mem_of_getElem? (i := 46) rfl))) (ty := .long) (by decide)
  have F_match_b12 : Fld Z h12 b12 "com/example/vestry/vestry/rules/Allocated" "match" "J" (.long (0 : Int64)) := D12 (Or.inr (hw _ (List.mem_of_getElem? (i := 48) rfl))) (ty := .long) (by decide)
  have F_profitSharing_b12 : Fld Z h12 b12 "com/example/vestry/vestry/rules/Allocated" "profitSharing" "J" (.long (0 : Int64)) := D12 (Or.inr (hw _ (List.mem_of_getElem? (i := 50) rfl))) (ty := .long) (by decide)
  have E_b12 := A12
  have g_b12 : n0 ≤ b12 := Nat.le_trans Z11 (Nat.le_of_eq g12.symm)
  have sz_b12 : h0.size ≤ b12 := (Nat.le_trans K11'.1 (Nat.le_of_eq g12.symm))
  have K12 : Keep h0 h12 [] := K11'.ext E12
  obtain ⟨_, _, ⟨T13, L13, k13, n13⟩, -, X13, ⟨Lc13, hQ13, l13, y13, z13⟩, st13⟩ := X12.specialBack hx (y := (⟨"com/example/vestry/vestry/rules/Allocated", "<init>", "(JJJJJJJ)V"⟩ : MethodName)) rfl hown (mvT hZ (hw _ (List.mem_of_getElem? (i := 28) rfl))) (mvT hZ (hw _ (List.mem_of_getElem? (i := 29) rfl))) (mvT hZ (hw _ (List.mem_of_getElem? (i := 30) rfl))) (by decide) (backOf (W := 1) (rm4 l Z a0 hw [] b12 q5 (q5 + (1 : Int64)) (q5 + (2 : Int64)) (q5 + (3 : Int64)) (q5 + (4 : Int64)) (q5 + (5 : Int64)) (q5 + (6 : Int64)) _ _ _ _ _ _ _ h12 n0 (Nat.le_trans Z11 E12.1) E_b12 F_compensation_b12 g_b12 F_cappedCompensation_b12 F_deferrals_b12 F_catchUp_b12 F_excessDeferrals_b12 F_match_b12 F_profitSharing_b12) hZ (hw _ (List.mem_of_getElem? (i := 30) rfl)) (hw _ (List.mem_of_getElem? (i := 22) rfl)) (by decide) (by decide)) (g := (mkF m 94 #[.val (.int p1), .val (.int p2), .val (.long q3), .second, .val (.long q4), .second, .val (.long q5), .second, .val (.int (Int32.ofNat pN)), .val (.int (Int32.ofNat qN)), .val (.int (Int32.ofNat rN)), .val (.ref b6), .unset, .unset, .unset, .unset, .unset, .unset, .unset] [(.long (q5 + (6 : Int64))), (.long (q5 + (5 : Int64))), (.long (q5 + (4 : Int64))), (.long (q5 + (3 : Int64))), (.long (q5 + (2 : Int64))), (.long (q5 + (1 : Int64))), (.long q5), (.ref b12), (.ref b12)])) rfl (by rw [hml]; rfl) (Steps.refl _) (a := b12) (argsL := [(.long q5), (.long (q5 + (1 : Int64))), (.long (q5 + (2 : Int64))), (.long (q5 + (3 : Int64))), (.long (q5 + (4 : Int64))), (.long (q5 + (5 : Int64))), (.long (q5 + (6 : Int64)))]) (rest := [(.ref b12)]) (lenOf pd_0_3 rfl) rfl (by show 2 * 0 + _ ≤ _; exact Nat.le_of_eq rfl) (hb hby at_94) (fun _ _ => ⟨rfl, e12, (by decide : 4 + 0 ≤ _), (by decide : 33 + 0 ≤ _)⟩)
  dsimp only [Pt.U, Pt.locs, Pt.cells, Pt.slots] at X13 l13 y13 z13 st13 hQ13
  obtain rfl : k13 = 4 := y13
  obtain rfl : n13 = 33 := z13
  obtain ⟨rfl, N13q, K13, E13, G0, G1, G2, G3, G4, G5, G6⟩ := hQ13
  have ne12w : b12 ≠ w := Nat.ne_of_gt (by rw [g12]; exact A11.lt)
  have ne612 : b6 ≠ b12 := Nat.ne_of_lt (by rw [g12]; exact E11.lt)
  have Z13 : n0 ≤ T13.heap.size := Nat.le_trans (Nat.le_trans Z11 E12.1) K13.1
  have Fc13 := (Fc11.ext E12).keep K13 (ninS ne612 nin0)
  have A13 := (A11.ext E12).keep K13 (ninS (Ne.symm ne12w) nin0)
  have Ea13 := (E11.ext E12).keep K13
  have N13 : Fr n0 L13 := by rw [l13]; exact Fr.app N11 N13q
  obtain ⟨cq14, kq14, q14a, q14b, q14c⟩ := isOf hZ rfl (Ea13)
  obtain ⟨_, _, ⟨T14, L14, k14, n14⟩, -, X14, ⟨Lc14, hQ14, l14, y14, z14⟩, st14⟩ := X13.virtualBack hx (y := (⟨"com/example/vestry/vestry/rules/Allocations", "set", "(ILcom/example/vestry/vestry/rules/Allocated;)V"⟩ : MethodName)) (z := (⟨"com/example/vestry/vestry/rules/Allocations", "set", "(ILcom/example/vestry/vestry/rules/Allocated;)V"⟩ : MethodName)) hown (mvT hZ (hw _ (List.mem_of_getElem? (i := 51) rfl))) (mvT hZ (hw _ (List.mem_of_getElem? (i := 52) rfl))) (notFace_of_selects (args := #[]) (mvT hZ (hw _ (List.mem_of_getElem? (i := 54) rfl)))) (mvT hZ (hw _ (List.mem_of_getElem? (i := 54) rfl))) (mvT hZ (hw _ (List.mem_of_getElem? (i := 53) rfl))) (by decide) (backOf (W := 0) (rm6 l Z a0 hw [] b6 pN hp3 b12 w (fun _ => 0) q5 (q5 + (1 : Int64)) (q5 + (2 : Int64)) (q5 + (3 : Int64)) (q5 + (4 : Int64)) (q5 + (5 : Int64)) T13.heap n0 Z13 Fc13 A13 g_w ne6w ne12w E13 G0 G1 G2 G3 G4 G5) hZ (hw _ (List.mem_of_getElem? (i := 55) rfl)) (hw _ (List.mem_of_getElem? (i := 3) rfl)) (by decide) (by decide)) q14a q14c (g := (mkF m 105 #[.val (.int p1), .val (.int p2), .val (.long q3), .second, .val (.long q4), .second, .val (.long q5), .second, .val (.int (Int32.ofNat pN)), .val (.int (Int32.ofNat qN)), .val (.int (Int32.ofNat rN)), .val (.ref b6), .val (.ref b12), .unset, .unset, .unset, .unset, .unset, .unset] [(.ref b12), (.int (Int32.ofNat pN)), (.ref b6)])) rfl (by rw [hml]; rfl) (Steps.refl _) (argsL := [(.int (Int32.ofNat pN)), (.ref b12)]) (rest := []) (lenOf pd_0_4 rfl) rfl (by show 2 * 0 + _ ≤ _; exact Nat.le_of_eq rfl) (hb hby at_105) (fun _ _ => ⟨rfl, rfl, (by decide : 4 + 0 ≤ _), (by decide : 33 + 0 ≤ _)⟩)
  dsimp only [Pt.U, Pt.locs, Pt.cells, Pt.slots] at X14 l14 y14 z14 st14 hQ14
  obtain rfl : k14 = 4 := y14
  obtain rfl : n14 = 33 := z14
  obtain ⟨rfl, N14q, K14, A14⟩ := hQ14
  have Z14 : n0 ≤ T14.heap.size := Nat.le_trans Z13 K14.1
  have Fc14 := Fc13.keep K14 (ninS ne6w nin0)
  have Ea14 := Ea13.keep K14
  have N14 : Fr n0 L14 := by rw [l14]; exact Fr.app N13 N14q
  obtain ⟨cq15, kq15, q15a, q15b, q15c⟩ := isOf hZ rfl (Ea14)
  obtain ⟨_, _, ⟨T15, L15, k15, n15⟩, -, X15, ⟨Lc15, hQ15, l15, y15, z15⟩, st15⟩ := X14.virtualBack hx (y := (⟨"com/example/vestry/vestry/rules/Allocations", "setProfitSharing", "(IJ)V"⟩ : MethodName)) (z := (⟨"com/example/vestry/vestry/rules/Allocations", "setProfitSharing", "(IJ)V"⟩ : MethodName)) hown (mvT hZ (hw _ (List.mem_of_getElem? (i := 86) rfl))) (mvT hZ (hw _ (List.mem_of_getElem? (i := 87) rfl))) (notFace_of_selects (args := #[]) (mvT hZ (hw _ (List.mem_of_getElem? (i := 89) rfl)))) (mvT hZ (hw _ (List.mem_of_getElem? (i := 89) rfl))) (mvT hZ (hw _ (List.mem_of_getElem? (i := 88) rfl))) (by decide) (backOf (W := 0) (rm13 l Z a0 hw [] b6 pN hp3 q3 w _ T14.heap n0 Z14 Fc14 A14 g_w) hZ (hw _ (List.mem_of_getElem? (i := 90) rfl)) (hw _ (List.mem_of_getElem? (i := 3) rfl)) (by decide) (by decide)) q15a q15c (g := (mkF m 113 #[.val (.int p1), .val (.int p2), .val (.long q3), .second, .val (.long q4), .second, .val (.long q5), .second, .val (.int (Int32.ofNat pN)), .val (.int (Int32.ofNat qN)), .val (.int (Int32.ofNat rN)), .val (.ref b6), .val (.ref b12), .unset, .unset, .unset, .unset, .unset, .unset] [(.long q3), (.int (Int32.ofNat pN)), (.ref b6)])) rfl (by rw [hml]; rfl) (Steps.refl _) (argsL := [(.int (Int32.ofNat pN)), (.long q3)]) (rest := []) (lenOf pd_0_6 rfl) rfl (by show 2 * 0 + _ ≤ _; exact Nat.le_of_eq rfl) (hb hby at_113) (fun _ _ => ⟨rfl, rfl, (by decide : 4 + 0 ≤ _), (by decide : 33 + 0 ≤ _)⟩)
  dsimp only [Pt.U, Pt.locs, Pt.cells, Pt.slots] at X15 l15 y15 z15 st15 hQ15
  obtain rfl : k15 = 4 := y15
  obtain rfl : n15 = 33 := z15
  obtain ⟨rfl, N15q, K15, A15⟩ := hQ15
  have Z15 : n0 ≤ T15.heap.size := Nat.le_trans Z14 K15.1
  have Fc15 := Fc14.keep K15 (ninS ne6w nin0)
  have Ea15 := Ea14.keep K15
  have N15 : Fr n0 L15 := by rw [l15]; exact Fr.app N14 N15q
  obtain ⟨cq16, kq16, q16a, q16b, q16c⟩ := isOf hZ rfl (Ea15)
  obtain ⟨_, _, ⟨T16, L16, k16, n16⟩, -, X16, ⟨Lc16, hQ16, l16, y16, z16⟩, st16⟩ := X15.virtualBack hx (y := (⟨"com/example/vestry/vestry/rules/Allocations", "setProfitSharing", "(IJ)V"⟩ : MethodName)) (z := (⟨"com/example/vestry/vestry/rules/Allocations", "setProfitSharing", "(IJ)V"⟩ : MethodName)) hown (mvT hZ (hw _ (List.mem_of_getElem? (i := 86) rfl))) (mvT hZ (hw _ (List.mem_of_getElem? (i := 87) rfl))) (notFace_of_selects (args := #[]) (mvT hZ (hw _ (List.mem_of_getElem? (i := 89) rfl)))) (mvT hZ (hw _ (List.mem_of_getElem? (i := 89) rfl))) (mvT hZ (hw _ (List.mem_of_getElem? (i := 88) rfl))) (by decide) (backOf (W := 0) (rm13 l Z a0 hw [] b6 qN hq3 q4 w _ T15.heap n0 Z15 Fc15 A15 g_w) hZ (hw _ (List.mem_of_getElem? (i := 90) rfl)) (hw _ (List.mem_of_getElem? (i := 3) rfl)) (by decide) (by decide)) q16a q16c (g := (mkF m 122 #[.val (.int p1), .val (.int p2), .val (.long q3), .second, .val (.long q4), .second, .val (.long q5), .second, .val (.int (Int32.ofNat pN)), .val (.int (Int32.ofNat qN)), .val (.int (Int32.ofNat rN)), .val (.ref b6), .val (.ref b12), .unset, .unset, .unset, .unset, .unset, .unset] [(.long q4), (.int (Int32.ofNat qN)), (.ref b6)])) rfl (by rw [hml]; rfl) (Steps.refl _) (argsL := [(.int (Int32.ofNat qN)), (.long q4)]) (rest := []) (lenOf pd_0_6 rfl) rfl (by show 2 * 0 + _ ≤ _; exact Nat.le_of_eq rfl) (hb hby at_122) (fun _ _ => ⟨rfl, rfl, (by decide : 4 + 0 ≤ _), (by decide : 33 + 0 ≤ _)⟩)
  dsimp only [Pt.U, Pt.locs, Pt.cells, Pt.slots] at X16 l16 y16 z16 st16 hQ16
  obtain rfl : k16 = 4 := y16
  obtain rfl : n16 = 33 := z16
  obtain ⟨rfl, N16q, K16, A16⟩ := hQ16
  have Z16 : n0 ≤ T16.heap.size := Nat.le_trans Z15 K16.1
  have Fc16 := Fc15.keep K16 (ninS ne6w nin0)
  have Ea16 := Ea15.keep K16
  have N16 : Fr n0 L16 := by rw [l16]; exact Fr.app N15 N16q
  obtain ⟨cq17, kq17, q17a, q17b, q17c⟩ := isOf hZ rfl (Ea16)
  obtain ⟨_, _, ⟨T17, L17, k17, n17⟩, -, X17, ⟨Lc17, hQ17, l17, y17, z17⟩, st17⟩ := X16.virtualBack hx (y := (⟨"com/example/vestry/vestry/rules/Allocations", "addProfitSharingCent", "(I)V"⟩ : MethodName)) (z := (⟨"com/example/vestry/vestry/rules/Allocations", "addProfitSharingCent", "(I)V"⟩ : MethodName)) hown (mvT hZ (hw _ (List.mem_of_getElem? (i := 91) rfl))) (mvT hZ (hw _ (List.mem_of_getElem? (i := 92) rfl))) (notFace_of_selects (args := #[]) (mvT hZ (hw _ (List.mem_of_getElem? (i := 94) rfl)))) (mvT hZ (hw _ (List.mem_of_getElem? (i := 94) rfl))) (mvT hZ (hw _ (List.mem_of_getElem? (i := 93) rfl))) (by decide) (backOf (W := 0) (rm14 l Z a0 hw [] b6 pN hp3 w q3 _ T16.heap n0 Z16 Fc16 A16 (own_miss (by omega) (own_hit rfl)) g_w) hZ (hw _ (List.mem_of_getElem? (i := 95) rfl)) (hw _ (List.mem_of_getElem? (i := 3) rfl)) (by decide) (by decide)) q17a q17c (g := (mkF m 129 #[.val (.int p1), .val (.int p2), .val (.long q3), .second, .val (.long q4), .second, .val (.long q5), .second, .val (.int (Int32.ofNat pN)), .val (.int (Int32.ofNat qN)), .val (.int (Int32.ofNat rN)), .val (.ref b6), .val (.ref b12), .unset, .unset, .unset, .unset, .unset, .unset] [(.int (Int32.ofNat pN)), (.ref b6)])) rfl (by rw [hml]; rfl) (Steps.refl _) (argsL := [(.int (Int32.ofNat pN))]) (rest := []) (lenOf pd_0_7 rfl) rfl (by show 2 * 0 + _ ≤ _; exact Nat.le_of_eq rfl) (hb hby at_129) (fun _ _ => ⟨rfl, rfl, (by decide : 4 + 0 ≤ _), (by decide : 33 + 0 ≤ _)⟩)
  dsimp only [Pt.U, Pt.locs, Pt.cells, Pt.slots] at X17 l17 y17 z17 st17 hQ17
  obtain rfl : k17 = 4 := y17
  obtain rfl : n17 = 33 := z17
  obtain ⟨rfl, N17q, K17, A17w⟩ := hQ17
  have Z17 : n0 ≤ T17.heap.size := Nat.le_trans Z16 K17.1
  have Fc17 := Fc16.keep K17 (ninS ne6w nin0)
  have Ea17 := Ea16.keep K17
  have A17 : own_A Z T17.heap w (own_F pN qN q5 (q5 + (1 : Int64)) (q5 + (2 : Int64)) (q5 + (3 : Int64)) (q5 + (4 : Int64)) (q5 + (5 : Int64)) q3 q4) := A17w
  obtain ⟨⟨x0, x1, x2, x3⟩, x4, x5, x6⟩ := own_Fx (p := pN) (q := qN) q5 (q5 + (1 : Int64)) (q5 + (2 : Int64)) (q5 + (3 : Int64)) (q5 + (4 : Int64)) (q5 + (5 : Int64)) q3 q4
  have N17 : Fr n0 L17 := by rw [l17]; exact Fr.app N16 N17q
  obtain ⟨cq18, kq18, q18a, q18b, q18c⟩ := isOf hZ rfl (Ea17)
  obtain ⟨_, _, ⟨T18, L18, k18, n18⟩, -, X18, ⟨Lc18, hQ18, l18, y18, z18⟩, st18⟩ := X17.virtualBack hx (y := (⟨"com/example/vestry/vestry/rules/Allocations", "of", "(I)Lcom/example/vestry/vestry/rules/Allocated;"⟩ : MethodName)) (z := (⟨"com/example/vestry/vestry/rules/Allocations", "of", "(I)Lcom/example/vestry/vestry/rules/Allocated;"⟩ : MethodName)) hown (mvT hZ (hw _ (List.mem_of_getElem? (i := 96) rfl))) (mvT hZ (hw _ (List.mem_of_getElem? (i := 97) rfl))) (notFace_of_selects (args := #[]) (mvT hZ (hw _ (List.mem_of_getElem? (i := 99) rfl)))) (mvT hZ (hw _ (List.mem_of_getElem? (i := 99) rfl))) (mvT hZ (hw _ (List.mem_of_getElem? (i := 98) rfl))) (by decide) (backOf (W := 0) (rm15 l Z a0 hw [] b6 pN hp3 w q5 _ (q5 + (1 : Int64)) (q5 + (2 : Int64)) (q5 + (3 : Int64)) (q5 + (4 : Int64)) (q5 + (5 : Int64)) (q3 + (1 : Int64)) T17.heap n0 Z17 Fc17 A17 x0 x1 x2 x3 x4 x5 x6) hZ (hw _ (List.mem_of_getElem? (i := 100) rfl)) (hw _ (List.mem_of_getElem? (i := 3) rfl)) (by decide) (by decide)) q18a q18c (g := (mkF m 136 #[.val (.int p1), .val (.int p2), .val (.long q3), .second, .val (.long q4), .second, .val (.long q5), .second, .val (.int (Int32.ofNat pN)), .val (.int (Int32.ofNat qN)), .val (.int (Int32.ofNat rN)), .val (.ref b6), .val (.ref b12), .unset, .unset, .unset, .unset, .unset, .unset] [(.int (Int32.ofNat pN)), (.ref b6)])) rfl (by rw [hml]; rfl) (Steps.refl _) (argsL := [(.int (Int32.ofNat pN))]) (rest := []) (lenOf pd_0_8 rfl) rfl (by show 2 * 0 + _ ≤ _; exact Nat.le_of_eq rfl) (hb hby at_136) (fun _ _ => ⟨rfl, rfl, (by decide : 4 + 1 ≤ _), (by decide : 33 + 7 ≤ _)⟩)
  dsimp only [Pt.U, Pt.locs, Pt.cells, Pt.slots] at X18 l18 y18 z18 st18 hQ18
  obtain rfl : k18 = 5 := y18
  obtain rfl : n18 = 40 := z18
  obtain ⟨x, rfl, N18q, K18, E18, X_0, X_1, X_2, X_3, X_4, X_5, X_6⟩ := hQ18
  have Z18 : n0 ≤ T18.heap.size := Nat.le_trans Z17 K18.1
  have Fc18 := Fc17.keep K18 nin0
  have Ea18 := Ea17.keep K18
  have A18 := A17.keep K18 nin0
  have N18 : Fr n0 L18 := by rw [l18]; exact Fr.app N17 N18q
  obtain ⟨cq19, kq19, q19a, q19b, q19c⟩ := isOf hZ rfl (Ea18)
  obtain ⟨_, _, ⟨T19, L19, k19, n19⟩, -, X19, ⟨Lc19, hQ19, l19, y19, z19⟩, st19⟩ := X18.virtualBack hx (y := (⟨"com/example/vestry/vestry/rules/Allocations", "of", "(I)Lcom/example/vestry/vestry/rules/Allocated;"⟩ : MethodName)) (z := (⟨"com/example/vestry/vestry/rules/Allocations", "of", "(I)Lcom/example/vestry/vestry/rules/Allocated;"⟩ : MethodName)) hown (mvT hZ (hw _ (List.mem_of_getElem? (i := 96) rfl))) (mvT hZ (hw _ (List.mem_of_getElem? (i := 97) rfl))) (notFace_of_selects (args := #[]) (mvT hZ (hw _ (List.mem_of_getElem? (i := 99) rfl)))) (mvT hZ (hw _ (List.mem_of_getElem? (i := 99) rfl))) (mvT hZ (hw _ (List.mem_of_getElem? (i := 98) rfl))) (by decide) (backOf (W := 0) (rm15 l Z a0 hw [] b6 qN hq3 w (0 : Int64) _ (0 : Int64) (0 : Int64) (0 : Int64) (0 : Int64) (0 : Int64) q4 T18.heap n0 Z18 Fc18 A18 (own_F0 _ _ _ _ _ _ _ _ (Ne.symm hpq) (by decide : 0 < 6)) (own_F0 _ _ _ _ _ _ _ _ (Ne.symm hpq) (by decide : 1 < 6)) (own_F0 _ _ _ _ _ _ _ _ (Ne.symm hpq) (by decide : 2 < 6)) (own_F0 _ _ _ _ _ _ _ _ (Ne.symm hpq) (by decide : 3 < 6)) (own_F0 _ _ _ _ _ _ _ _ (Ne.symm hpq) (by decide : 4 < 6)) (own_F0 _ _ _ _ _ _ _ _ (Ne.symm hpq) (by decide : 5 < 6)) (own_Fq _ _ _ _ _ _ _ _ (Ne.symm hpq))) hZ (hw _ (List.mem_of_getElem? (i := 100) rfl)) (hw _ (List.mem_of_getElem? (i := 3) rfl)) (by decide) (by decide)) q19a q19c (g := (mkF m 145 #[.val (.int p1), .val (.int p2), .val (.long q3), .second, .val (.long q4), .second, .val (.long q5), .second, .val (.int (Int32.ofNat pN)), .val (.int (Int32.ofNat qN)), .val (.int (Int32.ofNat rN)), .val (.ref b6), .val (.ref b12), .val (.ref x), .unset, .unset, .unset, .unset, .unset] [(.int (Int32.ofNat qN)), (.ref b6)])) rfl (by rw [hml]; rfl) (Steps.refl _) (argsL := [(.int (Int32.ofNat qN))]) (rest := []) (lenOf pd_0_8 rfl) rfl (by show 2 * 0 + _ ≤ _; exact Nat.le_of_eq rfl) (hb hby at_145) (fun _ _ => ⟨rfl, rfl, (by decide : 5 + 1 ≤ _), (by decide : 40 + 7 ≤ _)⟩)
  dsimp only [Pt.U, Pt.locs, Pt.cells, Pt.slots] at X19 l19 y19 z19 st19 hQ19
  obtain rfl : k19 = 6 := y19
  obtain rfl : n19 = 47 := z19
  obtain ⟨y, rfl, N19q, K19, E19, Y_0, Y_1, Y_2, Y_3, Y_4, Y_5, Y_6⟩ := hQ19
  have Z19 : n0 ≤ T19.heap.size := Nat.le_trans Z18 K19.1
  have Fc19 := Fc18.keep K19 nin0
  have Ea19 := Ea18.keep K19
  have A19 := A18.keep K19 nin0
  have N19 : Fr n0 L19 := by rw [l19]; exact Fr.app N18 N19q
  obtain ⟨cq20, kq20, q20a, q20b, q20c⟩ := isOf hZ rfl (Ea19)
  obtain ⟨_, _, ⟨T20, L20, k20, n20⟩, -, X20, ⟨Lc20, hQ20, l20, y20, z20⟩, st20⟩ := X19.virtualBack hx (y := (⟨"com/example/vestry/vestry/rules/Allocations", "of", "(I)Lcom/example/vestry/vestry/rules/Allocated;"⟩ : MethodName)) (z := (⟨"com/example/vestry/vestry/rules/Allocations", "of", "(I)Lcom/example/vestry/vestry/rules/Allocated;"⟩ : MethodName)) hown (mvT hZ (hw _ (List.mem_of_getElem? (i := 96) rfl))) (mvT hZ (hw _ (List.mem_of_getElem? (i := 97) rfl))) (notFace_of_selects (args := #[]) (mvT hZ (hw _ (List.mem_of_getElem? (i := 99) rfl)))) (mvT hZ (hw _ (List.mem_of_getElem? (i := 99) rfl))) (mvT hZ (hw _ (List.mem_of_getElem? (i := 98) rfl))) (by decide) (backOf (W := 0) (rm15 l Z a0 hw [] b6 rN hr3 w (0 : Int64) _ (0 : Int64) (0 : Int64) (0 : Int64) (0 : Int64) (0 : Int64) (0 : Int64) T19.heap n0 Z19 Fc19 A19 (own_F0 _ _ _ _ _ _ _ _ (Ne.symm hpr) (by decide : 0 < 6)) (own_F0 _ _ _ _ _ _ _ _ (Ne.symm hpr) (by decide : 1 < 6)) (own_F0 _ _ _ _ _ _ _ _ (Ne.symm hpr) (by decide : 2 < 6)) (own_F0 _ _ _ _ _ _ _ _ (Ne.symm hpr) (by decide : 3 < 6)) (own_F0 _ _ _ _ _ _ _ _ (Ne.symm hpr) (by decide : 4 < 6)) (own_F0 _ _ _ _ _ _ _ _ (Ne.symm hpr) (by decide : 5 < 6)) (own_Fr _ _ _ _ _ _ _ _ (Ne.symm hpr) (Ne.symm hqr))) hZ (hw _ (List.mem_of_getElem? (i := 100) rfl)) (hw _ (List.mem_of_getElem? (i := 3) rfl)) (by decide) (by decide)) q20a q20c (g := (mkF m 154 #[.val (.int p1), .val (.int p2), .val (.long q3), .second, .val (.long q4), .second, .val (.long q5), .second, .val (.int (Int32.ofNat pN)), .val (.int (Int32.ofNat qN)), .val (.int (Int32.ofNat rN)), .val (.ref b6), .val (.ref b12), .val (.ref x), .val (.ref y), .unset, .unset, .unset, .unset] [(.int (Int32.ofNat rN)), (.ref b6)])) rfl (by rw [hml]; rfl) (Steps.refl _) (argsL := [(.int (Int32.ofNat rN))]) (rest := []) (lenOf pd_0_8 rfl) rfl (by show 2 * 0 + _ ≤ _; exact Nat.le_of_eq rfl) (hb hby at_154) (fun _ _ => ⟨rfl, rfl, (by decide : 6 + 1 ≤ _), (by decide : 47 + 7 ≤ _)⟩)
  dsimp only [Pt.U, Pt.locs, Pt.cells, Pt.slots] at X20 l20 y20 z20 st20 hQ20
  obtain rfl : k20 = 7 := y20
  obtain rfl : n20 = 54 := z20
  obtain ⟨z, rfl, N20q, K20, E20, Z_0, Z_1, Z_2, Z_3, Z_4, Z_5, Z_6⟩ := hQ20
  have Z20 : n0 ≤ T20.heap.size := Nat.le_trans Z19 K20.1
  have Ex := (E18.keep K19).keep K20
  have Ey := E19.keep K20
  have N20 : Fr n0 L20 := by rw [l20]; exact Fr.app N19 N20q
  obtain ⟨cq21, kq21, q21a, q21b, q21c⟩ := isOf hZ rfl (Ex)
  obtain ⟨_, _, ⟨T21, L21, k21, n21⟩, -, X21, ⟨Lc21, hQ21, l21, y21, z21⟩, st21⟩ := X20.virtualBack hx (y := (⟨"com/example/vestry/vestry/rules/Allocated", "compensation", "()J"⟩ : MethodName)) (z := (⟨"com/example/vestry/vestry/rules/Allocated", "compensation", "()J"⟩ : MethodName)) hown (mvT hZ (hw _ (List.mem_of_getElem? (i := 103) rfl))) (mvT hZ (hw _ (List.mem_of_getElem? (i := 57) rfl))) (notFace_of_selects (args := #[]) (mvT hZ (hw _ (List.mem_of_getElem? (i := 59) rfl)))) (mvT hZ (hw _ (List.mem_of_getElem? (i := 59) rfl))) (mvT hZ (hw _ (List.mem_of_getElem? (i := 58) rfl))) (by decide) (backOf (W := 0) (rm7 l Z a0 hw [] x _ T20.heap n0 Z20 ((X_0.keep K19 nin0).keep K20 nin0)) hZ (hw _ (List.mem_of_getElem? (i := 60) rfl)) (hw _ (List.mem_of_getElem? (i := 22) rfl)) (by decide) (by decide)) q21a q21c (g := (mkF m 161 #[.val (.int p1), .val (.int p2), .val (.long q3), .second, .val (.long q4), .second, .val (.long q5), .second, .val (.int (Int32.ofNat pN)), .val (.int (Int32.ofNat qN)), .val (.int (Int32.ofNat rN)), .val (.ref b6), .val (.ref b12), .val (.ref x), .val (.ref y), .val (.ref z), .unset, .unset, .unset] [(.ref x)])) rfl (by rw [hml]; rfl) (Steps.refl _) (argsL := []) (rest := []) (lenOf pd_0_5 rfl) rfl (by show 2 * 0 + _ ≤ _; exact Nat.le_of_eq rfl) (hb hby at_161) (fun _ _ => ⟨rfl, rfl, (by decide : 7 + 0 ≤ _), (by decide : 54 + 0 ≤ _)⟩)
  dsimp only [Pt.U, Pt.locs, Pt.cells, Pt.slots] at X21 l21 y21 z21 st21 hQ21
  obtain rfl : k21 = 7 := y21
  obtain rfl : n21 = 54 := z21
  obtain ⟨rfl, N21q, e21⟩ := hQ21
  have N21 : Fr n0 L21 := by rw [l21]; exact Fr.app N20 N21q
  obtain ⟨cq22, kq22, q22a, q22b, q22c⟩ := isOf hZ e21 (Ex)
  obtain ⟨_, _, ⟨T22, L22, k22, n22⟩, -, X22, ⟨Lc22, hQ22, l22, y22, z22⟩, st22⟩ := X21.virtualBack hx (y := (⟨"com/example/vestry/vestry/rules/Allocated", "cappedCompensation", "()J"⟩ : MethodName)) (z := (⟨"com/example/vestry/vestry/rules/Allocated", "cappedCompensation", "()J"⟩ : MethodName)) hown (mvT hZ (hw _ (List.mem_of_getElem? (i := 104) rfl))) (mvT hZ (hw _ (List.mem_of_getElem? (i := 62) rfl))) (notFace_of_selects (args := #[]) (mvT hZ (hw _ (List.mem_of_getElem? (i := 64) rfl)))) (mvT hZ (hw _ (List.mem_of_getElem? (i := 64) rfl))) (mvT hZ (hw _ (List.mem_of_getElem? (i := 63) rfl))) (by decide) (backOf (W := 0) (rm8 l Z a0 hw [] x _ T20.heap n0 Z20 ((X_1.keep K19 nin0).keep K20 nin0)) hZ (hw _ (List.mem_of_getElem? (i := 65) rfl)) (hw _ (List.mem_of_getElem? (i := 22) rfl)) (by decide) (by decide)) q22a q22c (g := (mkF m 172 #[.val (.int p1), .val (.int p2), .val (.long q3), .second, .val (.long q4), .second, .val (.long q5), .second, .val (.int (Int32.ofNat pN)), .val (.int (Int32.ofNat qN)), .val (.int (Int32.ofNat rN)), .val (.ref b6), .val (.ref b12), .val (.ref x), .val (.ref y), .val (.ref z), .unset, .unset, .unset] [(.ref x)])) rfl (by rw [hml]; rfl) (Steps.refl _) (argsL := []) (rest := []) (lenOf pd_0_5 rfl) rfl (by show 2 * 0 + _ ≤ _; exact Nat.le_of_eq rfl) (hb hby at_172) (fun _ _ => ⟨rfl, e21, (by decide : 7 + 0 ≤ _), (by decide : 54 + 0 ≤ _)⟩)
  dsimp only [Pt.U, Pt.locs, Pt.cells, Pt.slots] at X22 l22 y22 z22 st22 hQ22
  obtain rfl : k22 = 7 := y22
  obtain rfl : n22 = 54 := z22
  obtain ⟨rfl, N22q, e22⟩ := hQ22
  have N22 : Fr n0 L22 := by rw [l22]; exact Fr.app N21 N22q
  obtain ⟨cq23, kq23, q23a, q23b, q23c⟩ := isOf hZ e22 (Ex)
  obtain ⟨_, _, ⟨T23, L23, k23, n23⟩, -, X23, ⟨Lc23, hQ23, l23, y23, z23⟩, st23⟩ := X22.virtualBack hx (y := (⟨"com/example/vestry/vestry/rules/Allocated", "deferrals", "()J"⟩ : MethodName)) (z := (⟨"com/example/vestry/vestry/rules/Allocated", "deferrals", "()J"⟩ : MethodName)) hown (mvT hZ (hw _ (List.mem_of_getElem? (i := 105) rfl))) (mvT hZ (hw _ (List.mem_of_getElem? (i := 67) rfl))) (notFace_of_selects (args := #[]) (mvT hZ (hw _ (List.mem_of_getElem? (i := 69) rfl)))) (mvT hZ (hw _ (List.mem_of_getElem? (i := 69) rfl))) (mvT hZ (hw _ (List.mem_of_getElem? (i := 68) rfl))) (by decide) (backOf (W := 0) (rm9 l Z a0 hw [] x _ T20.heap n0 Z20 ((X_2.keep K19 nin0).keep K20 nin0)) hZ (hw _ (List.mem_of_getElem? (i := 70) rfl)) (hw _ (List.mem_of_getElem? (i := 22) rfl)) (by decide) (by decide)) q23a q23c (g := (mkF m 185 #[.val (.int p1), .val (.int p2), .val (.long q3), .second, .val (.long q4), .second, .val (.long q5), .second, .val (.int (Int32.ofNat pN)), .val (.int (Int32.ofNat qN)), .val (.int (Int32.ofNat rN)), .val (.ref b6), .val (.ref b12), .val (.ref x), .val (.ref y), .val (.ref z), .unset, .unset, .unset] [(.ref x)])) rfl (by rw [hml]; rfl) (Steps.refl _) (argsL := []) (rest := []) (lenOf pd_0_5 rfl) rfl (by show 2 * 0 + _ ≤ _; exact Nat.le_of_eq rfl) (hb hby at_185) (fun _ _ => ⟨rfl, e22, (by decide : 7 + 0 ≤ _), (by decide : 54 + 0 ≤ _)⟩)
  dsimp only [Pt.U, Pt.locs, Pt.cells, Pt.slots] at X23 l23 y23 z23 st23 hQ23
  obtain rfl : k23 = 7 := y23
  obtain rfl : n23 = 54 := z23
  obtain ⟨rfl, N23q, e23⟩ := hQ23
  have N23 : Fr n0 L23 := by rw [l23]; exact Fr.app N22 N23q
  obtain ⟨cq24, kq24, q24a, q24b, q24c⟩ := isOf hZ e23 (Ex)
  obtain ⟨_, _, ⟨T24, L24, k24, n24⟩, -, X24, ⟨Lc24, hQ24, l24, y24, z24⟩, st24⟩ := X23.virtualBack hx (y := (⟨"com/example/vestry/vestry/rules/Allocated", "catchUp", "()J"⟩ : MethodName)) (z := (⟨"com/example/vestry/vestry/rules/Allocated", "catchUp", "()J"⟩ : MethodName)) hown (mvT hZ (hw _ (List.mem_of_getElem? (i := 106) rfl))) (mvT hZ (hw _ (List.mem_of_getElem? (i := 72) rfl))) (notFace_of_selects (args := #[]) (mvT hZ (hw _ (List.mem_of_getElem? (i := 74) rfl)))) (mvT hZ (hw _ (List.mem_of_getElem? (i := 74) rfl))) (mvT hZ (hw _ (List.mem_of_getElem? (i := 73) rfl))) (by decide) (backOf (W := 0) (rm10 l Z a0 hw [] x _ T20.heap n0 Z20 ((X_3.keep K19 nin0).keep K20 nin0)) hZ (hw _ (List.mem_of_getElem? (i := 75) rfl)) (hw _ (List.mem_of_getElem? (i := 22) rfl)) (by decide) (by decide)) q24a q24c (g := (mkF m 200 #[.val (.int p1), .val (.int p2), .val (.long q3), .second, .val (.long q4), .second, .val (.long q5), .second, .val (.int (Int32.ofNat pN)), .val (.int (Int32.ofNat qN)), .val (.int (Int32.ofNat rN)), .val (.ref b6), .val (.ref b12), .val (.ref x), .val (.ref y), .val (.ref z), .unset, .unset, .unset] [(.ref x)])) rfl (by rw [hml]; rfl) (Steps.refl _) (argsL := []) (rest := []) (lenOf pd_0_5 rfl) rfl (by show 2 * 0 + _ ≤ _; exact Nat.le_of_eq rfl) (hb hby at_200) (fun _ _ => ⟨rfl, e23, (by decide : 7 + 0 ≤ _), (by decide : 54 + 0 ≤ _)⟩)
  dsimp only [Pt.U, Pt.locs, Pt.cells, Pt.slots] at X24 l24 y24 z24 st24 hQ24
  obtain rfl : k24 = 7 := y24
  obtain rfl : n24 = 54 := z24
  obtain ⟨rfl, N24q, e24⟩ := hQ24
  have N24 : Fr n0 L24 := by rw [l24]; exact Fr.app N23 N24q
  obtain ⟨cq25, kq25, q25a, q25b, q25c⟩ := isOf hZ e24 (Ex)
  obtain ⟨_, _, ⟨T25, L25, k25, n25⟩, -, X25, ⟨Lc25, hQ25, l25, y25, z25⟩, st25⟩ := X24.virtualBack hx (y := (⟨"com/example/vestry/vestry/rules/Allocated", "excessDeferrals", "()J"⟩ : MethodName)) (z := (⟨"com/example/vestry/vestry/rules/Allocated", "excessDeferrals", "()J"⟩ : MethodName)) hown (mvT hZ (hw _ (List.mem_of_getElem? (i := 107) rfl))) (mvT hZ (hw _ (List.mem_of_getElem? (i := 77) rfl))) (notFace_of_selects (args := #[]) (mvT hZ (hw _ (List.mem_of_getElem? (i := 79) rfl)))) (mvT hZ (hw _ (List.mem_of_getElem? (i := 79) rfl))) (mvT hZ (hw _ (List.mem_of_getElem? (i := 78) rfl))) (by decide) (backOf (W := 0) (rm11 l Z a0 hw [] x _ T20.heap n0 Z20 ((X_4.keep K19 nin0).keep K20 nin0)) hZ (hw _ (List.mem_of_getElem? (i := 80) rfl)) (hw _ (List.mem_of_getElem? (i := 22) rfl)) (by decide) (by decide)) q25a q25c (g := (mkF m 215 #[.val (.int p1), .val (.int p2), .val (.long q3), .second, .val (.long q4), .second, .val (.long q5), .second, .val (.int (Int32.ofNat pN)), .val (.int (Int32.ofNat qN)), .val (.int (Int32.ofNat rN)), .val (.ref b6), .val (.ref b12), .val (.ref x), .val (.ref y), .val (.ref z), .unset, .unset, .unset] [(.ref x)])) rfl (by rw [hml]; rfl) (Steps.refl _) (argsL := []) (rest := []) (lenOf pd_0_5 rfl) rfl (by show 2 * 0 + _ ≤ _; exact Nat.le_of_eq rfl) (hb hby at_215) (fun _ _ => ⟨rfl, e24, (by decide : 7 + 0 ≤ _), (by decide : 54 + 0 ≤ _)⟩)
  dsimp only [Pt.U, Pt.locs, Pt.cells, Pt.slots] at X25 l25 y25 z25 st25 hQ25
  obtain rfl : k25 = 7 := y25
  obtain rfl : n25 = 54 := z25
  obtain ⟨rfl, N25q, e25⟩ := hQ25
  have N25 : Fr n0 L25 := by rw [l25]; exact Fr.app N24 N25q
  obtain ⟨cq26, kq26, q26a, q26b, q26c⟩ := isOf hZ e25 (Ex)
  obtain ⟨_, _, ⟨T26, L26, k26, n26⟩, -, X26, ⟨Lc26, hQ26, l26, y26, z26⟩, st26⟩ := X25.virtualBack hx (y := (⟨"com/example/vestry/vestry/rules/Allocated", "match", "()J"⟩ : MethodName)) (z := (⟨"com/example/vestry/vestry/rules/Allocated", "match", "()J"⟩ : MethodName)) hown (mvT hZ (hw _ (List.mem_of_getElem? (i := 108) rfl))) (mvT hZ (hw _ (List.mem_of_getElem? (i := 82) rfl))) (notFace_of_selects (args := #[]) (mvT hZ (hw _ (List.mem_of_getElem? (i := 84) rfl)))) (mvT hZ (hw _ (List.mem_of_getElem? (i := 84) rfl))) (mvT hZ (hw _ (List.mem_of_getElem? (i := 83) rfl))) (by decide) (backOf (W := 0) (rm12 l Z a0 hw [] x _ T20.heap n0 Z20 ((X_5.keep K19 nin0).keep K20 nin0)) hZ (hw _ (List.mem_of_getElem? (i := 85) rfl)) (hw _ (List.mem_of_getElem? (i := 22) rfl)) (by decide) (by decide)) q26a q26c (g := (mkF m 230 #[.val (.int p1), .val (.int p2), .val (.long q3), .second, .val (.long q4), .second, .val (.long q5), .second, .val (.int (Int32.ofNat pN)), .val (.int (Int32.ofNat qN)), .val (.int (Int32.ofNat rN)), .val (.ref b6), .val (.ref b12), .val (.ref x), .val (.ref y), .val (.ref z), .unset, .unset, .unset] [(.ref x)])) rfl (by rw [hml]; rfl) (Steps.refl _) (argsL := []) (rest := []) (lenOf pd_0_5 rfl) rfl (by show 2 * 0 + _ ≤ _; exact Nat.le_of_eq rfl) (hb hby at_230) (fun _ _ => ⟨rfl, e25, (by decide : 7 + 0 ≤ _), (by decide : 54 + 0 ≤ _)⟩)
  dsimp only [Pt.U, Pt.locs, Pt.cells, Pt.slots] at X26 l26 y26 z26 st26 hQ26
  obtain rfl : k26 = 7 := y26
  obtain rfl : n26 = 54 := z26
  obtain ⟨rfl, N26q, e26⟩ := hQ26
  have N26 : Fr n0 L26 := by rw [l26]; exact Fr.app N25 N26q
  obtain ⟨cq27, kq27, q27a, q27b, q27c⟩ := isOf hZ e26 (Ex)
  obtain ⟨_, _, ⟨T27, L27, k27, n27⟩, -, X27, ⟨Lc27, hQ27, l27, y27, z27⟩, st27⟩ := X26.virtualBack hx (y := (⟨"com/example/vestry/vestry/rules/Allocated", "profitSharing", "()J"⟩ : MethodName)) (z := (⟨"com/example/vestry/vestry/rules/Allocated", "profitSharing", "()J"⟩ : MethodName)) hown (mvT hZ (hw _ (List.mem_of_getElem? (i := 109) rfl))) (mvT hZ (hw _ (List.mem_of_getElem? (i := 110) rfl))) (notFace_of_selects (args := #[]) (mvT hZ (hw _ (List.mem_of_getElem? (i := 112) rfl)))) (mvT hZ (hw _ (List.mem_of_getElem? (i := 112) rfl))) (mvT hZ (hw _ (List.mem_of_getElem? (i := 111) rfl))) (by decide) (backOf (W := 0) (rm16 l Z a0 hw [] x _ T20.heap n0 Z20 ((X_6.keep K19 nin0).keep K20 nin0)) hZ (hw _ (List.mem_of_getElem? (i := 113) rfl)) (hw _ (List.mem_of_getElem? (i := 22) rfl)) (by decide) (by decide)) q27a q27c (g := (mkF m 245 #[.val (.int p1), .val (.int p2), .val (.long q3), .second, .val (.long q4), .second, .val (.long q5), .second, .val (.int (Int32.ofNat pN)), .val (.int (Int32.ofNat qN)), .val (.int (Int32.ofNat rN)), .val (.ref b6), .val (.ref b12), .val (.ref x), .val (.ref y), .val (.ref z), .unset, .unset, .unset] [(.ref x)])) rfl (by rw [hml]; rfl) (Steps.refl _) (argsL := []) (rest := []) (lenOf pd_0_5 rfl) rfl (by show 2 * 0 + _ ≤ _; exact Nat.le_of_eq rfl) (hb hby at_245) (fun _ _ => ⟨rfl, e26, (by decide : 7 + 0 ≤ _), (by decide : 54 + 0 ≤ _)⟩)
  dsimp only [Pt.U, Pt.locs, Pt.cells, Pt.slots] at X27 l27 y27 z27 st27 hQ27
  obtain rfl : k27 = 7 := y27
  obtain rfl : n27 = 54 := z27
  obtain ⟨rfl, N27q, e27⟩ := hQ27
  have N27 : Fr n0 L27 := by rw [l27]; exact Fr.app N26 N27q
  obtain ⟨_, _, ⟨T28, L28, k28, n28⟩, -, X28, ⟨Lc28, hQ28, l28, y28, z28⟩, st28⟩ := Jvm.LawKit.callS X27 hx (y := (⟨"com/example/vestry/vestry/rules/AllocationsAddProfitSharingCentPinLaw", "zeroSave", "(Lcom/example/vestry/vestry/rules/Allocated;)Z"⟩ : MethodName)) hown (mvT hZ (hw _ (List.mem_of_getElem? (i := 114) rfl))) (mvT hZ (hw _ (List.mem_of_getElem? (i := 115) rfl))) (mvT hZ (hw _ (List.mem_of_getElem? (i := 116) rfl))) (mvT hZ (hw _ (List.mem_of_getElem? (i := 117) rfl))) (by decide) (backOf (W := 0) (rm17 l Z a0 hw [] y T20.heap n0 Z20 Ey (Y_0.keep K20 nin0) (Y_1.keep K20 nin0) (Y_2.keep K20 nin0) (Y_3.keep K20 nin0) (Y_4.keep K20 nin0) (Y_5.keep K20 nin0)) hZ (hw _ (List.mem_of_getElem? (i := 117) rfl)) (hw _ (List.mem_of_getElem? (i := 116) rfl)) (by decide) (by decide)) (g := (mkF m 264 #[.val (.int p1), .val (.int p2), .val (.long q3), .second, .val (.long q4), .second, .val (.long q5), .second, .val (.int (Int32.ofNat pN)), .val (.int (Int32.ofNat qN)), .val (.int (Int32.ofNat rN)), .val (.ref b6), .val (.ref b12), .val (.ref x), .val (.ref y), .val (.ref z), .val (.int (1 : Int32)), .unset, .unset] [(.ref y)])) rfl (by rw [hml]; rfl) (argsL := [(.ref y)]) (rest := []) (lenOf pd_0_9 rfl) rfl (by show 2 * 0 + _ ≤ _; exact Nat.le_of_eq rfl) (hb hby at_264) (fun _ _ => ⟨rfl, e27, (by decide : 7 + 0 ≤ _), (by decide : 54 + 0 ≤ _)⟩)
  dsimp only [Pt.U, Pt.locs, Pt.cells, Pt.slots] at X28 l28 y28 z28 st28 hQ28
  obtain rfl : k28 = 7 := y28
  obtain rfl : n28 = 54 := z28
  obtain ⟨rfl, N28q, e28⟩ := hQ28
  have N28 : Fr n0 L28 := by rw [l28]; exact Fr.app N27 N28q
  obtain ⟨cq29, kq29, q29a, q29b, q29c⟩ := isOf hZ e28 (Ey)
  obtain ⟨_, _, ⟨T29, L29, k29, n29⟩, -, X29, ⟨Lc29, hQ29, l29, y29, z29⟩, st29⟩ := X28.virtualBack hx (y := (⟨"com/example/vestry/vestry/rules/Allocated", "profitSharing", "()J"⟩ : MethodName)) (z := (⟨"com/example/vestry/vestry/rules/Allocated", "profitSharing", "()J"⟩ : MethodName)) hown (mvT hZ (hw _ (List.mem_of_getElem? (i := 109) rfl))) (mvT hZ (hw _ (List.mem_of_getElem? (i := 110) rfl))) (notFace_of_selects (args := #[]) (mvT hZ (hw _ (List.mem_of_getElem? (i := 112) rfl)))) (mvT hZ (hw _ (List.mem_of_getElem? (i := 112) rfl))) (mvT hZ (hw _ (List.mem_of_getElem? (i := 111) rfl))) (by decide) (backOf (W := 0) (rm16 l Z a0 hw [] y _ T20.heap n0 Z20 (Y_6.keep K20 nin0)) hZ (hw _ (List.mem_of_getElem? (i := 113) rfl)) (hw _ (List.mem_of_getElem? (i := 22) rfl)) (by decide) (by decide)) q29a q29c (g := (mkF m 272 #[.val (.int p1), .val (.int p2), .val (.long q3), .second, .val (.long q4), .second, .val (.long q5), .second, .val (.int (Int32.ofNat pN)), .val (.int (Int32.ofNat qN)), .val (.int (Int32.ofNat rN)), .val (.ref b6), .val (.ref b12), .val (.ref x), .val (.ref y), .val (.ref z), .val (.int (1 : Int32)), .unset, .unset] [(.ref y)])) rfl (by rw [hml]; rfl) (Steps.refl _) (argsL := []) (rest := []) (lenOf pd_0_5 rfl) rfl (by show 2 * 0 + _ ≤ _; exact Nat.le_of_eq rfl) (hb hby at_272) (fun _ _ => ⟨rfl, e28, (by decide : 7 + 0 ≤ _), (by decide : 54 + 0 ≤ _)⟩)
  dsimp only [Pt.U, Pt.locs, Pt.cells, Pt.slots] at X29 l29 y29 z29 st29 hQ29
  obtain rfl : k29 = 7 := y29
  obtain rfl : n29 = 54 := z29
  obtain ⟨rfl, N29q, e29⟩ := hQ29
  have N29 : Fr n0 L29 := by rw [l29]; exact Fr.app N28 N29q
  obtain ⟨_, _, ⟨T30, L30, k30, n30⟩, -, X30, ⟨Lc30, hQ30, l30, y30, z30⟩, st30⟩ := Jvm.LawKit.callS X29 hx (y := (⟨"com/example/vestry/vestry/rules/AllocationsAddProfitSharingCentPinLaw", "zeroSave", "(Lcom/example/vestry/vestry/rules/Allocated;)Z"⟩ : MethodName)) hown (mvT hZ (hw _ (List.mem_of_getElem? (i := 114) rfl))) (mvT hZ (hw _ (List.mem_of_getElem? (i := 115) rfl))) (mvT hZ (hw _ (List.mem_of_getElem? (i := 116) rfl))) (mvT hZ (hw _ (List.mem_of_getElem? (i := 117) rfl))) (by decide) (backOf (W := 0) (rm17 l Z a0 hw [] z T20.heap n0 Z20 E20 Z_0 Z_1 Z_2 Z_3 Z_4 Z_5) hZ (hw _ (List.mem_of_getElem? (i := 117) rfl)) (hw _ (List.mem_of_getElem? (i := 116) rfl)) (by decide) (by decide)) (g := (mkF m 290 #[.val (.int p1), .val (.int p2), .val (.long q3), .second, .val (.long q4), .second, .val (.long q5), .second, .val (.int (Int32.ofNat pN)), .val (.int (Int32.ofNat qN)), .val (.int (Int32.ofNat rN)), .val (.ref b6), .val (.ref b12), .val (.ref x), .val (.ref y), .val (.ref z), .val (.int (1 : Int32)), .val (.int (1 : Int32)), .unset] [(.ref z)])) rfl (by rw [hml]; rfl) (argsL := [(.ref z)]) (rest := []) (lenOf pd_0_9 rfl) rfl (by show 2 * 0 + _ ≤ _; exact Nat.le_of_eq rfl) (hb hby at_290) (fun _ _ => ⟨rfl, e29, (by decide : 7 + 0 ≤ _), (by decide : 54 + 0 ≤ _)⟩)
  dsimp only [Pt.U, Pt.locs, Pt.cells, Pt.slots] at X30 l30 y30 z30 st30 hQ30
  obtain rfl : k30 = 7 := y30
  obtain rfl : n30 = 54 := z30
  obtain ⟨rfl, N30q, e30⟩ := hQ30
  have N30 : Fr n0 L30 := by rw [l30]; exact Fr.app N29 N30q
  obtain ⟨cq31, kq31, q31a, q31b, q31c⟩ := isOf hZ e30 (E20)
  obtain ⟨_, _, ⟨T31, L31, k31, n31⟩, -, X31, ⟨Lc31, hQ31, l31, y31, z31⟩, st31⟩ := X30.virtualBack hx (y := (⟨"com/example/vestry/vestry/rules/Allocated", "profitSharing", "()J"⟩ : MethodName)) (z := (⟨"com/example/vestry/vestry/rules/Allocated", "profitSharing", "()J"⟩ : MethodName)) hown (mvT hZ (hw _ (List.mem_of_getElem? (i := 109) rfl))) (mvT hZ (hw _ (List.mem_of_getElem? (i := 110) rfl))) (notFace_of_selects (args := #[]) (mvT hZ (hw _ (List.mem_of_getElem? (i := 112) rfl)))) (mvT hZ (hw _ (List.mem_of_getElem? (i := 112) rfl))) (mvT hZ (hw _ (List.mem_of_getElem? (i := 111) rfl))) (by decide) (backOf (W := 0) (rm16 l Z a0 hw [] z _ T20.heap n0 Z20 Z_6) hZ (hw _ (List.mem_of_getElem? (i := 113) rfl)) (hw _ (List.mem_of_getElem? (i := 22) rfl)) (by decide) (by decide)) q31a q31c (g := (mkF m 298 #[.val (.int p1), .val (.int p2), .val (.long q3), .second, .val (.long q4), .second, .val (.long q5), .second, .val (.int (Int32.ofNat pN)), .val (.int (Int32.ofNat qN)), .val (.int (Int32.ofNat rN)), .val (.ref b6), .val (.ref b12), .val (.ref x), .val (.ref y), .val (.ref z), .val (.int (1 : Int32)), .val (.int (1 : Int32)), .unset] [(.ref z)])) rfl (by rw [hml]; rfl) (Steps.refl _) (argsL := []) (rest := []) (lenOf pd_0_5 rfl) rfl (by show 2 * 0 + _ ≤ _; exact Nat.le_of_eq rfl) (hb hby at_298) (fun _ _ => ⟨rfl, e30, (by decide : 7 + 0 ≤ _), (by decide : 54 + 0 ≤ _)⟩)
  dsimp only [Pt.U, Pt.locs, Pt.cells, Pt.slots] at X31 l31 y31 z31 st31 hQ31
  obtain rfl : k31 = 7 := y31
  obtain rfl : n31 = 54 := z31
  obtain ⟨rfl, N31q, e31⟩ := hQ31
  have N31 : Fr n0 L31 := by rw [l31]; exact Fr.app N30 N31q
  obtain ⟨fs, hr, hrun, hended, hW, hsame⟩ := X31.leave (v := some (.int (1 : Int32))) (fun h => by rw [Bd.returns] at h; cases h)
  refine ⟨_, _, pre0 _ ?_, hrun, hended, _, _, rfl, ?_, ⟨_, rfl⟩, hW, hsame.mono (by decide) (by decide)⟩
  · show Steps p.tables e below (s₁.setTop (mkF m 0 #[.val (.int p1), .val (.int p2), .val (.long q3), .second, .val (.long q4), .second, .val (.long q5), .second, .unset, .unset, .unset, .unset, .unset, .unset, .unset, .unset, .unset, .unset, .unset] [])) _
    refine XS.iloadN X0.here hx rfl (hb hby at_0) rfl ?_
    show Steps p.tables e below (s₁.setTop (mkF m 1 #[.val (.int p1), .val (.int p2), .val (.long q3), .second, .val (.long q4), .second, .val (.long q5), .second, .unset, .unset, .unset, .unset, .unset, .unset, .unset, .unset, .unset, .unset, .unset] [(.int p1)])) _
    refine X0.ldcInt hx hown (mvT hZ (hw _ (List.mem_of_getElem? (i := 0) rfl))) (g := (mkF m 1 #[.val (.int p1), .val (.int p2), .val (.long q3), .second, .val (.long q4), .second, .val (.long q5), .second, .unset, .unset, .unset, .unset, .unset, .unset, .unset, .unset, .unset, .unset, .unset] [(.int p1)])) rfl (hb hby at_1) _ ?_
    show Steps p.tables e below (s₁.setTop (mkF m 3 #[.val (.int p1), .val (.int p2), .val (.long q3), .second, .val (.long q4), .second, .val (.long q5), .second, .unset, .unset, .unset, .unset, .unset, .unset, .unset, .unset, .unset, .unset, .unset] [(.int (2147483647 : Int32)), (.int p1)])) _
    refine XS.iand X0.here hx rfl (hb hby at_3) rfl ?_
    show Steps p.tables e below (s₁.setTop (mkF m 4 #[.val (.int p1), .val (.int p2), .val (.long q3), .second, .val (.long q4), .second, .val (.long q5), .second, .unset, .unset, .unset, .unset, .unset, .unset, .unset, .unset, .unset, .unset, .unset] [(.int (p1 &&& (2147483647 : Int32)))])) _
    refine XS.iconst X0.here hx rfl (hb hby at_4) ?_
    show Steps p.tables e below (s₁.setTop (mkF m 5 #[.val (.int p1), .val (.int p2), .val (.long q3), .second, .val (.long q4), .second, .val (.long q5), .second, .unset, .unset, .unset, .unset, .unset, .unset, .unset, .unset, .unset, .unset, .unset] [(.int (3 : Int32)), (.int (p1 &&& (2147483647 : Int32)))])) _
    refine iremM X0 hx rfl (hb hby at_5) rfl (by decide) ?_
    show Steps p.tables e below (s₁.setTop (mkF m 6 #[.val (.int p1), .val (.int p2), .val (.long q3), .second, .val (.long q4), .second, .val (.long q5), .second, .unset, .unset, .unset, .unset, .unset, .unset, .unset, .unset, .unset, .unset, .unset] [(.int ((p1 &&& (2147483647 : Int32)) % (3 : Int32)))])) _
    rw [hP]
    show Steps p.tables e below (s₁.setTop (mkF m 6 #[.val (.int p1), .val (.int p2), .val (.long q3), .second, .val (.long q4), .second, .val (.long q5), .second, .unset, .unset, .unset, .unset, .unset, .unset, .unset, .unset, .unset, .unset, .unset] [(.int (Int32.ofNat pN))])) _
    refine XS.istore X0.here hx rfl (hb hby at_6) rfl (l' := #[.val (.int p1), .val (.int p2), .val (.long q3), .second, .val (.long q4), .second, .val (.long q5), .second, .val (.int (Int32.ofNat pN)), .unset, .unset, .unset, .unset, .unset, .unset, .unset, .unset, .unset, .unset]) rfl ?_
    show Steps p.tables e below (s₁.setTop (mkF m 8 #[.val (.int p1), .val (.int p2), .val (.long q3), .second, .val (.long q4), .second, .val (.long q5), .second, .val (.int (Int32.ofNat pN)), .unset, .unset, .unset, .unset, .unset, .unset, .unset, .unset, .unset, .unset] [])) _
    refine XS.iload X0.here hx rfl (hb hby at_8) rfl ?_
    show Steps p.tables e below (s₁.setTop (mkF m 10 #[.val (.int p1), .val (.int p2), .val (.long q3), .second, .val (.long q4), .second, .val (.long q5), .second, .val (.int (Int32.ofNat pN)), .unset, .unset, .unset, .unset, .unset, .unset, .unset, .unset, .unset, .unset] [(.int (Int32.ofNat pN))])) _
    refine XS.iconst X0.here hx rfl (hb hby at_10) ?_
    show Steps p.tables e below (s₁.setTop (mkF m 11 #[.val (.int p1), .val (.int p2), .val (.long q3), .second, .val (.long q4), .second, .val (.long q5), .second, .val (.int (Int32.ofNat pN)), .unset, .unset, .unset, .unset, .unset, .unset, .unset, .unset, .unset, .unset] [(.int (1 : Int32)), (.int (Int32.ofNat pN))])) _
    refine XS.iadd X0.here hx rfl (hb hby at_11) rfl ?_
    show Steps p.tables e below (s₁.setTop (mkF m 12 #[.val (.int p1), .val (.int p2), .val (.long q3), .second, .val (.long q4), .second, .val (.long q5), .second, .val (.int (Int32.ofNat pN)), .unset, .unset, .unset, .unset, .unset, .unset, .unset, .unset, .unset, .unset] [(.int ((Int32.ofNat pN) + (1 : Int32)))])) _
    refine XS.iloadN X0.here hx rfl (hb hby at_12) rfl ?_
    show Steps p.tables e below (s₁.setTop (mkF m 13 #[.val (.int p1), .val (.int p2), .val (.long q3), .second, .val (.long q4), .second, .val (.long q5), .second, .val (.int (Int32.ofNat pN)), .unset, .unset, .unset, .unset, .unset, .unset, .unset, .unset, .unset, .unset] [(.int p2), (.int ((Int32.ofNat pN) + (1 : Int32)))])) _
    refine XS.iconst X0.here hx rfl (hb hby at_13) ?_
    show Steps p.tables e below (s₁.setTop (mkF m 14 #[.val (.int p1), .val (.int p2), .val (.long q3), .second, .val (.long q4), .second, .val (.long q5), .second, .val (.int (Int32.ofNat pN)), .unset, .unset, .unset, .unset, .unset, .unset, .unset, .unset, .unset, .unset] [(.int (1 : Int32)), (.int p2), (.int ((Int32.ofNat pN) + (1 : Int32)))])) _
    refine XS.iand X0.here hx rfl (hb hby at_14) rfl ?_
    show Steps p.tables e below (s₁.setTop (mkF m 15 #[.val (.int p1), .val (.int p2), .val (.long q3), .second, .val (.long q4), .second, .val (.long q5), .second, .val (.int (Int32.ofNat pN)), .unset, .unset, .unset, .unset, .unset, .unset, .unset, .unset, .unset, .unset] [(.int (p2 &&& (1 : Int32))), (.int ((Int32.ofNat pN) + (1 : Int32)))])) _
    refine XS.iadd X0.here hx rfl (hb hby at_15) rfl ?_
    show Steps p.tables e below (s₁.setTop (mkF m 16 #[.val (.int p1), .val (.int p2), .val (.long q3), .second, .val (.long q4), .second, .val (.long q5), .second, .val (.int (Int32.ofNat pN)), .unset, .unset, .unset, .unset, .unset, .unset, .unset, .unset, .unset, .unset] [(.int (((Int32.ofNat pN) + (1 : Int32)) + (p2 &&& (1 : Int32))))])) _
    refine XS.iconst X0.here hx rfl (hb hby at_16) ?_
    show Steps p.tables e below (s₁.setTop (mkF m 17 #[.val (.int p1), .val (.int p2), .val (.long q3), .second, .val (.long q4), .second, .val (.long q5), .second, .val (.int (Int32.ofNat pN)), .unset, .unset, .unset, .unset, .unset, .unset, .unset, .unset, .unset, .unset] [(.int (3 : Int32)), (.int (((Int32.ofNat pN) + (1 : Int32)) + (p2 &&& (1 : Int32))))])) _
    refine iremM X0 hx rfl (hb hby at_17) rfl (by decide) ?_
    show Steps p.tables e below (s₁.setTop (mkF m 18 #[.val (.int p1), .val (.int p2), .val (.long q3), .second, .val (.long q4), .second, .val (.long q5), .second, .val (.int (Int32.ofNat pN)), .unset, .unset, .unset, .unset, .unset, .unset, .unset, .unset, .unset, .unset] [(.int ((((Int32.ofNat pN) + (1 : Int32)) + (p2 &&& (1 : Int32))) % (3 : Int32)))])) _
    rw [hQ]
    show Steps p.tables e below (s₁.setTop (mkF m 18 #[.val (.int p1), .val (.int p2), .val (.long q3), .second, .val (.long q4), .second, .val (.long q5), .second, .val (.int (Int32.ofNat pN)), .unset, .unset, .unset, .unset, .unset, .unset, .unset, .unset, .unset, .unset] [(.int (Int32.ofNat qN))])) _
    refine XS.istore X0.here hx rfl (hb hby at_18) rfl (l' := #[.val (.int p1), .val (.int p2), .val (.long q3), .second, .val (.long q4), .second, .val (.long q5), .second, .val (.int (Int32.ofNat pN)), .val (.int (Int32.ofNat qN)), .unset, .unset, .unset, .unset, .unset, .unset, .unset, .unset, .unset]) rfl ?_
    show Steps p.tables e below (s₁.setTop (mkF m 20 #[.val (.int p1), .val (.int p2), .val (.long q3), .second, .val (.long q4), .second, .val (.long q5), .second, .val (.int (Int32.ofNat pN)), .val (.int (Int32.ofNat qN)), .unset, .unset, .unset, .unset, .unset, .unset, .unset, .unset, .unset] [])) _
    refine XS.iconst X0.here hx rfl (hb hby at_20) ?_
    show Steps p.tables e below (s₁.setTop (mkF m 21 #[.val (.int p1), .val (.int p2), .val (.long q3), .second, .val (.long q4), .second, .val (.long q5), .second, .val (.int (Int32.ofNat pN)), .val (.int (Int32.ofNat qN)), .unset, .unset, .unset, .unset, .unset, .unset, .unset, .unset, .unset] [(.int (3 : Int32))])) _
    refine XS.iload X0.here hx rfl (hb hby at_21) rfl ?_
    show Steps p.tables e below (s₁.setTop (mkF m 23 #[.val (.int p1), .val (.int p2), .val (.long q3), .second, .val (.long q4), .second, .val (.long q5), .second, .val (.int (Int32.ofNat pN)), .val (.int (Int32.ofNat qN)), .unset, .unset, .unset, .unset, .unset, .unset, .unset, .unset, .unset] [(.int (Int32.ofNat pN)), (.int (3 : Int32))])) _
    refine XS.isub X0.here hx rfl (hb hby at_23) rfl ?_
    show Steps p.tables e below (s₁.setTop (mkF m 24 #[.val (.int p1), .val (.int p2), .val (.long q3), .second, .val (.long q4), .second, .val (.long q5), .second, .val (.int (Int32.ofNat pN)), .val (.int (Int32.ofNat qN)), .unset, .unset, .unset, .unset, .unset, .unset, .unset, .unset, .unset] [(.int ((3 : Int32) - (Int32.ofNat pN)))])) _
    refine XS.iload X0.here hx rfl (hb hby at_24) rfl ?_
    show Steps p.tables e below (s₁.setTop (mkF m 26 #[.val (.int p1), .val (.int p2), .val (.long q3), .second, .val (.long q4), .second, .val (.long q5), .second, .val (.int (Int32.ofNat pN)), .val (.int (Int32.ofNat qN)), .unset, .unset, .unset, .unset, .unset, .unset, .unset, .unset, .unset] [(.int (Int32.ofNat qN)), (.int ((3 : Int32) - (Int32.ofNat pN)))])) _
    refine XS.isub X0.here hx rfl (hb hby at_26) rfl ?_
    show Steps p.tables e below (s₁.setTop (mkF m 27 #[.val (.int p1), .val (.int p2), .val (.long q3), .second, .val (.long q4), .second, .val (.long q5), .second, .val (.int (Int32.ofNat pN)), .val (.int (Int32.ofNat qN)), .unset, .unset, .unset, .unset, .unset, .unset, .unset, .unset, .unset] [(.int (((3 : Int32) - (Int32.ofNat pN)) - (Int32.ofNat qN)))])) _
    rw [hR]
    show Steps p.tables e below (s₁.setTop (mkF m 27 #[.val (.int p1), .val (.int p2), .val (.long q3), .second, .val (.long q4), .second, .val (.long q5), .second, .val (.int (Int32.ofNat pN)), .val (.int (Int32.ofNat qN)), .unset, .unset, .unset, .unset, .unset, .unset, .unset, .unset, .unset] [(.int (Int32.ofNat rN))])) _
    refine XS.istore X0.here hx rfl (hb hby at_27) rfl (l' := #[.val (.int p1), .val (.int p2), .val (.long q3), .second, .val (.long q4), .second, .val (.long q5), .second, .val (.int (Int32.ofNat pN)), .val (.int (Int32.ofNat qN)), .val (.int (Int32.ofNat rN)), .unset, .unset, .unset, .unset, .unset, .unset, .unset, .unset]) rfl ?_
    show Steps p.tables e below (s₁.setTop (mkF m 29 #[.val (.int p1), .val (.int p2), .val (.long q3), .second, .val (.long q4), .second, .val (.long q5), .second, .val (.int (Int32.ofNat pN)), .val (.int (Int32.ofNat qN)), .val (.int (Int32.ofNat rN)), .unset, .unset, .unset, .unset, .unset, .unset, .unset, .unset] [])) _
    refine st6 _ ?_
    show Steps p.tables e below (T6.setTop (mkF m 32 #[.val (.int p1), .val (.int p2), .val (.long q3), .second, .val (.long q4), .second, .val (.long q5), .second, .val (.int (Int32.ofNat pN)), .val (.int (Int32.ofNat qN)), .val (.int (Int32.ofNat rN)), .unset, .unset, .unset, .unset, .unset, .unset, .unset, .unset] [(.ref b6)])) _
    refine XS.dup X6.here hx rfl (hb hby at_32) rfl rfl ?_
    show Steps p.tables e below (T6.setTop (mkF m 33 #[.val (.int p1), .val (.int p2), .val (.long q3), .second, .val (.long q4), .second, .val (.long q5), .second, .val (.int (Int32.ofNat pN)), .val (.int (Int32.ofNat qN)), .val (.int (Int32.ofNat rN)), .unset, .unset, .unset, .unset, .unset, .unset, .unset, .unset] [(.ref b6), (.ref b6)])) _
    refine XS.iconst X6.here hx rfl (hb hby at_33) ?_
    show Steps p.tables e below (T6.setTop (mkF m 34 #[.val (.int p1), .val (.int p2), .val (.long q3), .second, .val (.long q4), .second, .val (.long q5), .second, .val (.int (Int32.ofNat pN)), .val (.int (Int32.ofNat qN)), .val (.int (Int32.ofNat rN)), .unset, .unset, .unset, .unset, .unset, .unset, .unset, .unset] [(.int (3 : Int32)), (.ref b6), (.ref b6)])) _
    refine st7 _ ?_
    show Steps p.tables e below (T7.setTop (mkF m 36 #[.val (.int p1), .val (.int p2), .val (.long q3), .second, .val (.long q4), .second, .val (.long q5), .second, .val (.int (Int32.ofNat pN)), .val (.int (Int32.ofNat qN)), .val (.int (Int32.ofNat rN)), .unset, .unset, .unset, .unset, .unset, .unset, .unset, .unset] [(.ref b7), (.ref b6), (.ref b6)])) _
    refine XS.dup X7.here hx rfl (hb hby at_36) rfl rfl ?_
    show Steps p.tables e below (T7.setTop (mkF m 37 #[.val (.int p1), .val (.int p2), .val (.long q3), .second, .val (.long q4), .second, .val (.long q5), .second, .val (.int (Int32.ofNat pN)), .val (.int (Int32.ofNat qN)), .val (.int (Int32.ofNat rN)), .unset, .unset, .unset, .unset, .unset, .unset, .unset, .unset] [(.ref b7), (.ref b7), (.ref b6), (.ref b6)])) _
    refine XS.iconst X7.here hx rfl (hb hby at_37) ?_
    show Steps p.tables e below (T7.setTop (mkF m 38 #[.val (.int p1), .val (.int p2), .val (.long q3), .second, .val (.long q4), .second, .val (.long q5), .second, .val (.int (Int32.ofNat pN)), .val (.int (Int32.ofNat qN)), .val (.int (Int32.ofNat rN)), .unset, .unset, .unset, .unset, .unset, .unset, .unset, .unset] [(.int (0 : Int32)), (.ref b7), (.ref b7), (.ref b6), (.ref b6)])) _
    refine XS.iconst X7.here hx rfl (hb hby at_38) ?_
    show Steps p.tables e below (T7.setTop (mkF m 39 #[.val (.int p1), .val (.int p2), .val (.long q3), .second, .val (.long q4), .second, .val (.long q5), .second, .val (.int (Int32.ofNat pN)), .val (.int (Int32.ofNat qN)), .val (.int (Int32.ofNat rN)), .unset, .unset, .unset, .unset, .unset, .unset, .unset, .unset] [(.int (0 : Int32)), (.int (0 : Int32)), (.ref b7), (.ref b7), (.ref b6), (.ref b6)])) _
    refine st8 _ ?_
    show Steps p.tables e below (T8.setTop (mkF m 40 #[.val (.int p1), .val (.int p2), .val (.long q3), .second, .val (.long q4), .second, .val (.long q5), .second, .val (.int (Int32.ofNat pN)), .val (.int (Int32.ofNat qN)), .val (.int (Int32.ofNat rN)), .unset, .unset, .unset, .unset, .unset, .unset, .unset, .unset] [(.ref b7), (.ref b6), (.ref b6)])) _
    refine XS.dup X8.here hx rfl (hb hby at_40) rfl rfl ?_
    show Steps p.tables e below (T8.setTop (mkF m 41 #[.val (.int p1), .val (.int p2), .val (.long q3), .second, .val (.long q4), .second, .val (.long q5), .second, .val (.int (Int32.ofNat pN)), .val (.int (Int32.ofNat qN)), .val (.int (Int32.ofNat rN)), .unset, .unset, .unset, .unset, .unset, .unset, .unset, .unset] [(.ref b7), (.ref b7), (.ref b6), (.ref b6)])) _
    refine XS.iconst X8.here hx rfl (hb hby at_41) ?_
    show Steps p.tables e below (T8.setTop (mkF m 42 #[.val (.int p1), .val (.int p2), .val (.long q3), .second, .val (.long q4), .second, .val (.long q5), .second, .val (.int (Int32.ofNat pN)), .val (.int (Int32.ofNat qN)), .val (.int (Int32.ofNat rN)), .unset, .unset, .unset, .unset, .unset, .unset, .unset, .unset] [(.int (1 : Int32)), (.ref b7), (.ref b7), (.ref b6), (.ref b6)])) _
    refine XS.iconst X8.here hx rfl (hb hby at_42) ?_
    show Steps p.tables e below (T8.setTop (mkF m 43 #[.val (.int p1), .val (.int p2), .val (.long q3), .second, .val (.long q4), .second, .val (.long q5), .second, .val (.int (Int32.ofNat pN)), .val (.int (Int32.ofNat qN)), .val (.int (Int32.ofNat rN)), .unset, .unset, .unset, .unset, .unset, .unset, .unset, .unset] [(.int (1 : Int32)), (.int (1 : Int32)), (.ref b7), (.ref b7), (.ref b6), (.ref b6)])) _
    refine st9 _ ?_
    show Steps p.tables e below (T9.setTop (mkF m 44 #[.val (.int p1), .val (.int p2), .val (.long q3), .second, .val (.long q4), .second, .val (.long q5), .second, .val (.int (Int32.ofNat pN)), .val (.int (Int32.ofNat qN)), .val (.int (Int32.ofNat rN)), .unset, .unset, .unset, .unset, .unset, .unset, .unset, .unset] [(.ref b7), (.ref b6), (.ref b6)])) _
    refine XS.dup X9.here hx rfl (hb hby at_44) rfl rfl ?_
    show Steps p.tables e below (T9.setTop (mkF m 45 #[.val (.int p1), .val (.int p2), .val (.long q3), .second, .val (.long q4), .second, .val (.long q5), .second, .val (.int (Int32.ofNat pN)), .val (.int (Int32.ofNat qN)), .val (.int (Int32.ofNat rN)), .unset, .unset, .unset, .unset, .unset, .unset, .unset, .unset] [(.ref b7), (.ref b7), (.ref b6), (.ref b6)])) _
    refine XS.iconst X9.here hx rfl (hb hby at_45) ?_
    show Steps p.tables e below (T9.setTop (mkF m 46 #[.val (.int p1), .val (.int p2), .val (.long q3), .second, .val (.long q4), .second, .val (.long q5), .second, .val (.int (Int32.ofNat pN)), .val (.int (Int32.ofNat qN)), .val (.int (Int32.ofNat rN)), .unset, .unset, .unset, .unset, .unset, .unset, .unset, .unset] [(.int (2 : Int32)), (.ref b7), (.ref b7), (.ref b6), (.ref b6)])) _
    refine XS.iconst X9.here hx rfl (hb hby at_46) ?_
    show Steps p.tables e below (T9.setTop (mkF m 47 #[.val (.int p1), .val (.int p2), .val (.long q3), .second, .val (.long q4), .second, .val (.long q5), .second, .val (.int (Int32.ofNat pN)), .val (.int (Int32.ofNat qN)), .val (.int (Int32.ofNat rN)), .unset, .unset, .unset, .unset, .unset, .unset, .unset, .unset] [(.int (2 : Int32)), (.int (2 : Int32)), (.ref b7), (.ref b7), (.ref b6), (.ref b6)])) _
    refine st10 _ ?_
    show Steps p.tables e below (T10.setTop (mkF m 48 #[.val (.int p1), .val (.int p2), .val (.long q3), .second, .val (.long q4), .second, .val (.long q5), .second, .val (.int (Int32.ofNat pN)), .val (.int (Int32.ofNat qN)), .val (.int (Int32.ofNat rN)), .unset, .unset, .unset, .unset, .unset, .unset, .unset, .unset] [(.ref b7), (.ref b6), (.ref b6)])) _
    refine XS.iconst X10.here hx rfl (hb hby at_48) ?_
    show Steps p.tables e below (T10.setTop (mkF m 49 #[.val (.int p1), .val (.int p2), .val (.long q3), .second, .val (.long q4), .second, .val (.long q5), .second, .val (.int (Int32.ofNat pN)), .val (.int (Int32.ofNat qN)), .val (.int (Int32.ofNat rN)), .unset, .unset, .unset, .unset, .unset, .unset, .unset, .unset] [(.int (3 : Int32)), (.ref b7), (.ref b6), (.ref b6)])) _
    refine st11.trans ?_
    show Steps p.tables e below (T11.setTop (mkF m 52 #[.val (.int p1), .val (.int p2), .val (.long q3), .second, .val (.long q4), .second, .val (.long q5), .second, .val (.int (Int32.ofNat pN)), .val (.int (Int32.ofNat qN)), .val (.int (Int32.ofNat rN)), .unset, .unset, .unset, .unset, .unset, .unset, .unset, .unset] [(.ref b6)])) _
    refine XS.astore X11.here hx rfl (hb hby at_52) rfl rfl (l' := #[.val (.int p1), .val (.int p2), .val (.long q3), .second, .val (.long q4), .second, .val (.long q5), .second, .val (.int (Int32.ofNat pN)), .val (.int (Int32.ofNat qN)), .val (.int (Int32.ofNat rN)), .val (.ref b6), .unset, .unset, .unset, .unset, .unset, .unset, .unset]) rfl ?_
    show Steps p.tables e below (T11.setTop (mkF m 54 #[.val (.int p1), .val (.int p2), .val (.long q3), .second, .val (.long q4), .second, .val (.long q5), .second, .val (.int (Int32.ofNat pN)), .val (.int (Int32.ofNat qN)), .val (.int (Int32.ofNat rN)), .val (.ref b6), .unset, .unset, .unset, .unset, .unset, .unset, .unset] [])) _
    refine st12 _ ?_
    show Steps p.tables e below (T12.setTop (mkF m 57 #[.val (.int p1), .val (.int p2), .val (.long q3), .second, .val (.long q4), .second, .val (.long q5), .second, .val (.int (Int32.ofNat pN)), .val (.int (Int32.ofNat qN)), .val (.int (Int32.ofNat rN)), .val (.ref b6), .unset, .unset, .unset, .unset, .unset, .unset, .unset] [(.ref b12)])) _
    refine XS.dup X12.here hx rfl (hb hby at_57) rfl rfl ?_
    show Steps p.tables e below (T12.setTop (mkF m 58 #[.val (.int p1), .val (.int p2), .val (.long q3), .second, .val (.long q4), .second, .val (.long q5), .second, .val (.int (Int32.ofNat pN)), .val (.int (Int32.ofNat qN)), .val (.int (Int32.ofNat rN)), .val (.ref b6), .unset, .unset, .unset, .unset, .unset, .unset, .unset] [(.ref b12), (.ref b12)])) _
    refine XS.lload X12.here hx rfl (hb hby at_58) rfl ?_
    show Steps p.tables e below (T12.setTop (mkF m 60 #[.val (.int p1), .val (.int p2), .val (.long q3), .second, .val (.long q4), .second, .val (.long q5), .second, .val (.int (Int32.ofNat pN)), .val (.int (Int32.ofNat qN)), .val (.int (Int32.ofNat rN)), .val (.ref b6), .unset, .unset, .unset, .unset, .unset, .unset, .unset] [(.long q5), (.ref b12), (.ref b12)])) _
    refine XS.lload X12.here hx rfl (hb hby at_60) rfl ?_
    show Steps p.tables e below (T12.setTop (mkF m 62 #[.val (.int p1), .val (.int p2), .val (.long q3), .second, .val (.long q4), .second, .val (.long q5), .second, .val (.int (Int32.ofNat pN)), .val (.int (Int32.ofNat qN)), .val (.int (Int32.ofNat rN)), .val (.ref b6), .unset, .unset, .unset, .unset, .unset, .unset, .unset] [(.long q5), (.long q5), (.ref b12), (.ref b12)])) _
    refine XS.lconst X12.here hx rfl (hb hby at_62) ?_
    show Steps p.tables e below (T12.setTop (mkF m 63 #[.val (.int p1), .val (.int p2), .val (.long q3), .second, .val (.long q4), .second, .val (.long q5), .second, .val (.int (Int32.ofNat pN)), .val (.int (Int32.ofNat qN)), .val (.int (Int32.ofNat rN)), .val (.ref b6), .unset, .unset, .unset, .unset, .unset, .unset, .unset] [(.long (1 : Int64)), (.long q5), (.long q5), (.ref b12), (.ref b12)])) _
    refine XS.ladd X12.here hx rfl (hb hby at_63) rfl ?_
    show Steps p.tables e below (T12.setTop (mkF m 64 #[.val (.int p1), .val (.int p2), .val (.long q3), .second, .val (.long q4), .second, .val (.long q5), .second, .val (.int (Int32.ofNat pN)), .val (.int (Int32.ofNat qN)), .val (.int (Int32.ofNat rN)), .val (.ref b6), .unset, .unset, .unset, .unset, .unset, .unset, .unset] [(.long (q5 + (1 : Int64))), (.long q5), (.ref b12), (.ref b12)])) _
    refine XS.lload X12.here hx rfl (hb hby at_64) rfl ?_
    show Steps p.tables e below (T12.setTop (mkF m 66 #[.val (.int p1), .val (.int p2), .val (.long q3), .second, .val (.long q4), .second, .val (.long q5), .second, .val (.int (Int32.ofNat pN)), .val (.int (Int32.ofNat qN)), .val (.int (Int32.ofNat rN)), .val (.ref b6), .unset, .unset, .unset, .unset, .unset, .unset, .unset] [(.long q5), (.long (q5 + (1 : Int64))), (.long q5), (.ref b12), (.ref b12)])) _
    refine X12.ldc2Long hx hown (mvT hZ (hw _ (List.mem_of_getElem? (i := 23) rfl))) (g := (mkF m 66 #[.val (.int p1), .val (.int p2), .val (.long q3), .second, .val (.long q4), .second, .val (.long q5), .second, .val (.int (Int32.ofNat pN)), .val (.int (Int32.ofNat qN)), .val (.int (Int32.ofNat rN)), .val (.ref b6), .unset, .unset, .unset, .unset, .unset, .unset, .unset] [(.long q5), (.long (q5 + (1 : Int64))), (.long q5), (.ref b12), (.ref b12)])) rfl (hb hby at_66) _ ?_
    show Steps p.tables e below (T12.setTop (mkF m 69 #[.val (.int p1), .val (.int p2), .val (.long q3), .second, .val (.long q4), .second, .val (.long q5), .second, .val (.int (Int32.ofNat pN)), .val (.int (Int32.ofNat qN)), .val (.int (Int32.ofNat rN)), .val (.ref b6), .unset, .unset, .unset, .unset, .unset, .unset, .unset] [(.long (2 : Int64)), (.long q5), (.long (q5 + (1 : Int64))), (.long q5), (.ref b12), (.ref b12)])) _
    refine XS.ladd X12.here hx rfl (hb hby at_69) rfl ?_
    show Steps p.tables e below (T12.setTop (mkF m 70 #[.val (.int p1), .val (.int p2), .val (.long q3), .second, .val (.long q4), .second, .val (.long q5), .second, .val (.int (Int32.ofNat pN)), .val (.int (Int32.ofNat qN)), .val (.int (Int32.ofNat rN)), .val (.ref b6), .unset, .unset, .unset, .unset, .unset, .unset, .unset] [(.long (q5 + (2 : Int64))), (.long (q5 + (1 : Int64))), (.long q5), (.ref b12), (.ref b12)])) _
    refine XS.lload X12.here hx rfl (hb hby at_70) rfl ?_
    show Steps p.tables e below (T12.setTop (mkF m 72 #[.val (.int p1), .val (.int p2), .val (.long q3), .second, .val (.long q4), .second, .val (.long q5), .second, .val (.int (Int32.ofNat pN)), .val (.int (Int32.ofNat qN)), .val (.int (Int32.ofNat rN)), .val (.ref b6), .unset, .unset, .unset, .unset, .unset, .unset, .unset] [(.long q5), (.long (q5 + (2 : Int64))), (.long (q5 + (1 : Int64))), (.long q5), (.ref b12), (.ref b12)])) _
    refine X12.ldc2Long hx hown (mvT hZ (hw _ (List.mem_of_getElem? (i := 24) rfl))) (g := (mkF m 72 #[.val (.int p1), .val (.int p2), .val (.long q3), .second, .val (.long q4), .second, .val (.long q5), .second, .val (.int (Int32.ofNat pN)), .val (.int (Int32.ofNat qN)), .val (.int (Int32.ofNat rN)), .val (.ref b6), .unset, .unset, .unset, .unset, .unset, .unset, .unset] [(.long q5), (.long (q5 + (2 : Int64))), (.long (q5 + (1 : Int64))), (.long q5), (.ref b12), (.ref b12)])) rfl (hb hby at_72) _ ?_
    show Steps p.tables e below (T12.setTop (mkF m 75 #[.val (.int p1), .val (.int p2), .val (.long q3), .second, .val (.long q4), .second, .val (.long q5), .second, .val (.int (Int32.ofNat pN)), .val (.int (Int32.ofNat qN)), .val (.int (Int32.ofNat rN)), .val (.ref b6), .unset, .unset, .unset, .unset, .unset, .unset, .unset] [(.long (3 : Int64)), (.long q5), (.long (q5 + (2 : Int64))), (.long (q5 + (1 : Int64))), (.long q5), (.ref b12), (.ref b12)])) _
    refine XS.ladd X12.here hx rfl (hb hby at_75) rfl ?_
    show Steps p.tables e below (T12.setTop (mkF m 76 #[.val (.int p1), .val (.int p2), .val (.long q3), .second, .val (.long q4), .second, .val (.long q5), .second, .val (.int (Int32.ofNat pN)), .val (.int (Int32.ofNat qN)), .val (.int (Int32.ofNat rN)), .val (.ref b6), .unset, .unset, .unset, .unset, .unset, .unset, .unset] [(.long (q5 + (3 : Int64))), (.long (q5 + (2 : Int64))), (.long (q5 + (1 : Int64))), (.long q5), (.ref b12), (.ref b12)])) _
    refine XS.lload X12.here hx rfl (hb hby at_76) rfl ?_
    show Steps p.tables e below (T12.setTop (mkF m 78 #[.val (.int p1), .val (.int p2), .val (.long q3), .second, .val (.long q4), .second, .val (.long q5), .second, .val (.int (Int32.ofNat pN)), .val (.int (Int32.ofNat qN)), .val (.int (Int32.ofNat rN)), .val (.ref b6), .unset, .unset, .unset, .unset, .unset, .unset, .unset] [(.long q5), (.long (q5 + (3 : Int64))), (.long (q5 + (2 : Int64))), (.long (q5 + (1 : Int64))), (.long q5), (.ref b12), (.ref b12)])) _
    refine X12.ldc2Long hx hown (mvT hZ (hw _ (List.mem_of_getElem? (i := 25) rfl))) (g := (mkF m 78 #[.val (.int p1), .val (.int p2), .val (.long q3), .second, .val (.long q4), .second, .val (.long q5), .second, .val (.int (Int32.ofNat pN)), .val (.int (Int32.ofNat qN)), .val (.int (Int32.ofNat rN)), .val (.ref b6), .unset, .unset, .unset, .unset, .unset, .unset, .unset] [(.long q5), (.long (q5 + (3 : Int64))), (.long (q5 + (2 : Int64))), (.long (q5 + (1 : Int64))), (.long q5), (.ref b12), (.ref b12)])) rfl (hb hby at_78) _ ?_
    show Steps p.tables e below (T12.setTop (mkF m 81 #[.val (.int p1), .val (.int p2), .val (.long q3), .second, .val (.long q4), .second, .val (.long q5), .second, .val (.int (Int32.ofNat pN)), .val (.int (Int32.ofNat qN)), .val (.int (Int32.ofNat rN)), .val (.ref b6), .unset, .unset, .unset, .unset, .unset, .unset, .unset] [(.long (4 : Int64)), (.long q5), (.long (q5 + (3 : Int64))), (.long (q5 + (2 : Int64))), (.long (q5 + (1 : Int64))), (.long q5), (.ref b12), (.ref b12)])) _
    refine XS.ladd X12.here hx rfl (hb hby at_81) rfl ?_
    show Steps p.tables e below (T12.setTop (mkF m 82 #[.val (.int p1), .val (.int p2), .val (.long q3), .second, .val (.long q4), .second, .val (.long q5), .second, .val (.int (Int32.ofNat pN)), .val (.int (Int32.ofNat qN)), .val (.int (Int32.ofNat rN)), .val (.ref b6), .unset, .unset, .unset, .unset, .unset, .unset, .unset] [(.long (q5 + (4 : Int64))), (.long (q5 + (3 : Int64))), (.long (q5 + (2 : Int64))), (.long (q5 + (1 : Int64))), (.long q5), (.ref b12), (.ref b12)])) _
    refine XS.lload X12.here hx rfl (hb hby at_82) rfl ?_
    show Steps p.tables e below (T12.setTop (mkF m 84 #[.val (.int p1), .val (.int p2), .val (.long q3), .second, .val (.long q4), .second, .val (.long q5), .second, .val (.int (Int32.ofNat pN)), .val (.int (Int32.ofNat qN)), .val (.int (Int32.ofNat rN)), .val (.ref b6), .unset, .unset, .unset, .unset, .unset, .unset, .unset] [(.long q5), (.long (q5 + (4 : Int64))), (.long (q5 + (3 : Int64))), (.long (q5 + (2 : Int64))), (.long (q5 + (1 : Int64))), (.long q5), (.ref b12), (.ref b12)])) _
    refine X12.ldc2Long hx hown (mvT hZ (hw _ (List.mem_of_getElem? (i := 26) rfl))) (g := (mkF m 84 #[.val (.int p1), .val (.int p2), .val (.long q3), .second, .val (.long q4), .second, .val (.long q5), .second, .val (.int (Int32.ofNat pN)), .val (.int (Int32.ofNat qN)), .val (.int (Int32.ofNat rN)), .val (.ref b6), .unset, .unset, .unset, .unset, .unset, .unset, .unset] [(.long q5), (.long (q5 + (4 : Int64))), (.long (q5 + (3 : Int64))), (.long (q5 + (2 : Int64))), (.long (q5 + (1 : Int64))), (.long q5), (.ref b12), (.ref b12)])) rfl (hb hby at_84) _ ?_
    show Steps p.tables e below (T12.setTop (mkF m 87 #[.val (.int p1), .val (.int p2), .val (.long q3), .second, .val (.long q4), .second, .val (.long q5), .second, .val (.int (Int32.ofNat pN)), .val (.int (Int32.ofNat qN)), .val (.int (Int32.ofNat rN)), .val (.ref b6), .unset, .unset, .unset, .unset, .unset, .unset, .unset] [(.long (5 : Int64)), (.long q5), (.long (q5 + (4 : Int64))), (.long (q5 + (3 : Int64))), (.long (q5 + (2 : Int64))), (.long (q5 + (1 : Int64))), (.long q5), (.ref b12), (.ref b12)])) _
    refine XS.ladd X12.here hx rfl (hb hby at_87) rfl ?_
    show Steps p.tables e below (T12.setTop (mkF m 88 #[.val (.int p1), .val (.int p2), .val (.long q3), .second, .val (.long q4), .second, .val (.long q5), .second, .val (.int (Int32.ofNat pN)), .val (.int (Int32.ofNat qN)), .val (.int (Int32.ofNat rN)), .val (.ref b6), .unset, .unset, .unset, .unset, .unset, .unset, .unset] [(.long (q5 + (5 : Int64))), (.long (q5 + (4 : Int64))), (.long (q5 + (3 : Int64))), (.long (q5 + (2 : Int64))), (.long (q5 + (1 : Int64))), (.long q5), (.ref b12), (.ref b12)])) _
    refine XS.lload X12.here hx rfl (hb hby at_88) rfl ?_
    show Steps p.tables e below (T12.setTop (mkF m 90 #[.val (.int p1), .val (.int p2), .val (.long q3), .second, .val (.long q4), .second, .val (.long q5), .second, .val (.int (Int32.ofNat pN)), .val (.int (Int32.ofNat qN)), .val (.int (Int32.ofNat rN)), .val (.ref b6), .unset, .unset, .unset, .unset, .unset, .unset, .unset] [(.long q5), (.long (q5 + (5 : Int64))), (.long (q5 + (4 : Int64))), (.long (q5 + (3 : Int64))), (.long (q5 + (2 : Int64))), (.long (q5 + (1 : Int64))), (.long q5), (.ref b12), (.ref b12)])) _
    refine X12.ldc2Long hx hown (mvT hZ (hw _ (List.mem_of_getElem? (i := 27) rfl))) (g := (mkF m 90 #[.val (.int p1), .val (.int p2), .val (.long q3), .second, .val (.long q4), .second, .val (.long q5), .second, .val (.int (Int32.ofNat pN)), .val (.int (Int32.ofNat qN)), .val (.int (Int32.ofNat rN)), .val (.ref b6), .unset, .unset, .unset, .unset, .unset, .unset, .unset] [(.long q5), (.long (q5 + (5 : Int64))), (.long (q5 + (4 : Int64))), (.long (q5 + (3 : Int64))), (.long (q5 + (2 : Int64))), (.long (q5 + (1 : Int64))), (.long q5), (.ref b12), (.ref b12)])) rfl (hb hby at_90) _ ?_
    show Steps p.tables e below (T12.setTop (mkF m 93 #[.val (.int p1), .val (.int p2), .val (.long q3), .second, .val (.long q4), .second, .val (.long q5), .second, .val (.int (Int32.ofNat pN)), .val (.int (Int32.ofNat qN)), .val (.int (Int32.ofNat rN)), .val (.ref b6), .unset, .unset, .unset, .unset, .unset, .unset, .unset] [(.long (6 : Int64)), (.long q5), (.long (q5 + (5 : Int64))), (.long (q5 + (4 : Int64))), (.long (q5 + (3 : Int64))), (.long (q5 + (2 : Int64))), (.long (q5 + (1 : Int64))), (.long q5), (.ref b12), (.ref b12)])) _
    refine XS.ladd X12.here hx rfl (hb hby at_93) rfl ?_
    show Steps p.tables e below (T12.setTop (mkF m 94 #[.val (.int p1), .val (.int p2), .val (.long q3), .second, .val (.long q4), .second, .val (.long q5), .second, .val (.int (Int32.ofNat pN)), .val (.int (Int32.ofNat qN)), .val (.int (Int32.ofNat rN)), .val (.ref b6), .unset, .unset, .unset, .unset, .unset, .unset, .unset] [(.long (q5 + (6 : Int64))), (.long (q5 + (5 : Int64))), (.long (q5 + (4 : Int64))), (.long (q5 + (3 : Int64))), (.long (q5 + (2 : Int64))), (.long (q5 + (1 : Int64))), (.long q5), (.ref b12), (.ref b12)])) _
    refine st13.trans ?_
    show Steps p.tables e below (T13.setTop (mkF m 97 #[.val (.int p1), .val (.int p2), .val (.long q3), .second, .val (.long q4), .second, .val (.long q5), .second, .val (.int (Int32.ofNat pN)), .val (.int (Int32.ofNat qN)), .val (.int (Int32.ofNat rN)), .val (.ref b6), .unset, .unset, .unset, .unset, .unset, .unset, .unset] [(.ref b12)])) _
    refine XS.astore X13.here hx rfl (hb hby at_97) rfl rfl (l' := #[.val (.int p1), .val (.int p2), .val (.long q3), .second, .val (.long q4), .second, .val (.long q5), .second, .val (.int (Int32.ofNat pN)), .val (.int (Int32.ofNat qN)), .val (.int (Int32.ofNat rN)), .val (.ref b6), .val (.ref b12), .unset, .unset, .unset, .unset, .unset, .unset]) rfl ?_
    show Steps p.tables e below (T13.setTop (mkF m 99 #[.val (.int p1), .val (.int p2), .val (.long q3), .second, .val (.long q4), .second, .val (.long q5), .second, .val (.int (Int32.ofNat pN)), .val (.int (Int32.ofNat qN)), .val (.int (Int32.ofNat rN)), .val (.ref b6), .val (.ref b12), .unset, .unset, .unset, .unset, .unset, .unset] [])) _
    refine XS.aload X13.here hx rfl (hb hby at_99) rfl rfl ?_
    show Steps p.tables e below (T13.setTop (mkF m 101 #[.val (.int p1), .val (.int p2), .val (.long q3), .second, .val (.long q4), .second, .val (.long q5), .second, .val (.int (Int32.ofNat pN)), .val (.int (Int32.ofNat qN)), .val (.int (Int32.ofNat rN)), .val (.ref b6), .val (.ref b12), .unset, .unset, .unset, .unset, .unset, .unset] [(.ref b6)])) _
    refine XS.iload X13.here hx rfl (hb hby at_101) rfl ?_
    show Steps p.tables e below (T13.setTop (mkF m 103 #[.val (.int p1), .val (.int p2), .val (.long q3), .second, .val (.long q4), .second, .val (.long q5), .second, .val (.int (Int32.ofNat pN)), .val (.int (Int32.ofNat qN)), .val (.int (Int32.ofNat rN)), .val (.ref b6), .val (.ref b12), .unset, .unset, .unset, .unset, .unset, .unset] [(.int (Int32.ofNat pN)), (.ref b6)])) _
    refine XS.aload X13.here hx rfl (hb hby at_103) rfl rfl ?_
    show Steps p.tables e below (T13.setTop (mkF m 105 #[.val (.int p1), .val (.int p2), .val (.long q3), .second, .val (.long q4), .second, .val (.long q5), .second, .val (.int (Int32.ofNat pN)), .val (.int (Int32.ofNat qN)), .val (.int (Int32.ofNat rN)), .val (.ref b6), .val (.ref b12), .unset, .unset, .unset, .unset, .unset, .unset] [(.ref b12), (.int (Int32.ofNat pN)), (.ref b6)])) _
    refine st14.trans ?_
    show Steps p.tables e below (T14.setTop (mkF m 108 #[.val (.int p1), .val (.int p2), .val (.long q3), .second, .val (.long q4), .second, .val (.long q5), .second, .val (.int (Int32.ofNat pN)), .val (.int (Int32.ofNat qN)), .val (.int (Int32.ofNat rN)), .val (.ref b6), .val (.ref b12), .unset, .unset, .unset, .unset, .unset, .unset] [])) _
    refine XS.aload X14.here hx rfl (hb hby at_108) rfl rfl ?_
    show Steps p.tables e below (T14.setTop (mkF m 110 #[.val (.int p1), .val (.int p2), .val (.long q3), .second, .val (.long q4), .second, .val (.long q5), .second, .val (.int (Int32.ofNat pN)), .val (.int (Int32.ofNat qN)), .val (.int (Int32.ofNat rN)), .val (.ref b6), .val (.ref b12), .unset, .unset, .unset, .unset, .unset, .unset] [(.ref b6)])) _
    refine XS.iload X14.here hx rfl (hb hby at_110) rfl ?_
    show Steps p.tables e below (T14.setTop (mkF m 112 #[.val (.int p1), .val (.int p2), .val (.long q3), .second, .val (.long q4), .second, .val (.long q5), .second, .val (.int (Int32.ofNat pN)), .val (.int (Int32.ofNat qN)), .val (.int (Int32.ofNat rN)), .val (.ref b6), .val (.ref b12), .unset, .unset, .unset, .unset, .unset, .unset] [(.int (Int32.ofNat pN)), (.ref b6)])) _
    refine XS.lloadN X14.here hx rfl (hb hby at_112) rfl ?_
    show Steps p.tables e below (T14.setTop (mkF m 113 #[.val (.int p1), .val (.int p2), .val (.long q3), .second, .val (.long q4), .second, .val (.long q5), .second, .val (.int (Int32.ofNat pN)), .val (.int (Int32.ofNat qN)), .val (.int (Int32.ofNat rN)), .val (.ref b6), .val (.ref b12), .unset, .unset, .unset, .unset, .unset, .unset] [(.long q3), (.int (Int32.ofNat pN)), (.ref b6)])) _
    refine st15.trans ?_
    show Steps p.tables e below (T15.setTop (mkF m 116 #[.val (.int p1), .val (.int p2), .val (.long q3), .second, .val (.long q4), .second, .val (.long q5), .second, .val (.int (Int32.ofNat pN)), .val (.int (Int32.ofNat qN)), .val (.int (Int32.ofNat rN)), .val (.ref b6), .val (.ref b12), .unset, .unset, .unset, .unset, .unset, .unset] [])) _
    refine XS.aload X15.here hx rfl (hb hby at_116) rfl rfl ?_
    show Steps p.tables e below (T15.setTop (mkF m 118 #[.val (.int p1), .val (.int p2), .val (.long q3), .second, .val (.long q4), .second, .val (.long q5), .second, .val (.int (Int32.ofNat pN)), .val (.int (Int32.ofNat qN)), .val (.int (Int32.ofNat rN)), .val (.ref b6), .val (.ref b12), .unset, .unset, .unset, .unset, .unset, .unset] [(.ref b6)])) _
    refine XS.iload X15.here hx rfl (hb hby at_118) rfl ?_
    show Steps p.tables e below (T15.setTop (mkF m 120 #[.val (.int p1), .val (.int p2), .val (.long q3), .second, .val (.long q4), .second, .val (.long q5), .second, .val (.int (Int32.ofNat pN)), .val (.int (Int32.ofNat qN)), .val (.int (Int32.ofNat rN)), .val (.ref b6), .val (.ref b12), .unset, .unset, .unset, .unset, .unset, .unset] [(.int (Int32.ofNat qN)), (.ref b6)])) _
    refine XS.lload X15.here hx rfl (hb hby at_120) rfl ?_
    show Steps p.tables e below (T15.setTop (mkF m 122 #[.val (.int p1), .val (.int p2), .val (.long q3), .second, .val (.long q4), .second, .val (.long q5), .second, .val (.int (Int32.ofNat pN)), .val (.int (Int32.ofNat qN)), .val (.int (Int32.ofNat rN)), .val (.ref b6), .val (.ref b12), .unset, .unset, .unset, .unset, .unset, .unset] [(.long q4), (.int (Int32.ofNat qN)), (.ref b6)])) _
    refine st16.trans ?_
    show Steps p.tables e below (T16.setTop (mkF m 125 #[.val (.int p1), .val (.int p2), .val (.long q3), .second, .val (.long q4), .second, .val (.long q5), .second, .val (.int (Int32.ofNat pN)), .val (.int (Int32.ofNat qN)), .val (.int (Int32.ofNat rN)), .val (.ref b6), .val (.ref b12), .unset, .unset, .unset, .unset, .unset, .unset] [])) _
    refine XS.aload X16.here hx rfl (hb hby at_125) rfl rfl ?_
    show Steps p.tables e below (T16.setTop (mkF m 127 #[.val (.int p1), .val (.int p2), .val (.long q3), .second, .val (.long q4), .second, .val (.long q5), .second, .val (.int (Int32.ofNat pN)), .val (.int (Int32.ofNat qN)), .val (.int (Int32.ofNat rN)), .val (.ref b6), .val (.ref b12), .unset, .unset, .unset, .unset, .unset, .unset] [(.ref b6)])) _
    refine XS.iload X16.here hx rfl (hb hby at_127) rfl ?_
    show Steps p.tables e below (T16.setTop (mkF m 129 #[.val (.int p1), .val (.int p2), .val (.long q3), .second, .val (.long q4), .second, .val (.long q5), .second, .val (.int (Int32.ofNat pN)), .val (.int (Int32.ofNat qN)), .val (.int (Int32.ofNat rN)), .val (.ref b6), .val (.ref b12), .unset, .unset, .unset, .unset, .unset, .unset] [(.int (Int32.ofNat pN)), (.ref b6)])) _
    refine st17.trans ?_
    show Steps p.tables e below (T17.setTop (mkF m 132 #[.val (.int p1), .val (.int p2), .val (.long q3), .second, .val (.long q4), .second, .val (.long q5), .second, .val (.int (Int32.ofNat pN)), .val (.int (Int32.ofNat qN)), .val (.int (Int32.ofNat rN)), .val (.ref b6), .val (.ref b12), .unset, .unset, .unset, .unset, .unset, .unset] [])) _
    refine XS.aload X17.here hx rfl (hb hby at_132) rfl rfl ?_
    show Steps p.tables e below (T17.setTop (mkF m 134 #[.val (.int p1), .val (.int p2), .val (.long q3), .second, .val (.long q4), .second, .val (.long q5), .second, .val (.int (Int32.ofNat pN)), .val (.int (Int32.ofNat qN)), .val (.int (Int32.ofNat rN)), .val (.ref b6), .val (.ref b12), .unset, .unset, .unset, .unset, .unset, .unset] [(.ref b6)])) _
    refine XS.iload X17.here hx rfl (hb hby at_134) rfl ?_
    show Steps p.tables e below (T17.setTop (mkF m 136 #[.val (.int p1), .val (.int p2), .val (.long q3), .second, .val (.long q4), .second, .val (.long q5), .second, .val (.int (Int32.ofNat pN)), .val (.int (Int32.ofNat qN)), .val (.int (Int32.ofNat rN)), .val (.ref b6), .val (.ref b12), .unset, .unset, .unset, .unset, .unset, .unset] [(.int (Int32.ofNat pN)), (.ref b6)])) _
    refine st18.trans ?_
    show Steps p.tables e below (T18.setTop (mkF m 139 #[.val (.int p1), .val (.int p2), .val (.long q3), .second, .val (.long q4), .second, .val (.long q5), .second, .val (.int (Int32.ofNat pN)), .val (.int (Int32.ofNat qN)), .val (.int (Int32.ofNat rN)), .val (.ref b6), .val (.ref b12), .unset, .unset, .unset, .unset, .unset, .unset] [(.ref x)])) _
    refine XS.astore X18.here hx rfl (hb hby at_139) rfl rfl (l' := #[.val (.int p1), .val (.int p2), .val (.long q3), .second, .val (.long q4), .second, .val (.long q5), .second, .val (.int (Int32.ofNat pN)), .val (.int (Int32.ofNat qN)), .val (.int (Int32.ofNat rN)), .val (.ref b6), .val (.ref b12), .val (.ref x), .unset, .unset, .unset, .unset, .unset]) rfl ?_
    show Steps p.tables e below (T18.setTop (mkF m 141 #[.val (.int p1), .val (.int p2), .val (.long q3), .second, .val (.long q4), .second, .val (.long q5), .second, .val (.int (Int32.ofNat pN)), .val (.int (Int32.ofNat qN)), .val (.int (Int32.ofNat rN)), .val (.ref b6), .val (.ref b12), .val (.ref x), .unset, .unset, .unset, .unset, .unset] [])) _
    refine XS.aload X18.here hx rfl (hb hby at_141) rfl rfl ?_
    show Steps p.tables e below (T18.setTop (mkF m 143 #[.val (.int p1), .val (.int p2), .val (.long q3), .second, .val (.long q4), .second, .val (.long q5), .second, .val (.int (Int32.ofNat pN)), .val (.int (Int32.ofNat qN)), .val (.int (Int32.ofNat rN)), .val (.ref b6), .val (.ref b12), .val (.ref x), .unset, .unset, .unset, .unset, .unset] [(.ref b6)])) _
    refine XS.iload X18.here hx rfl (hb hby at_143) rfl ?_
    show Steps p.tables e below (T18.setTop (mkF m 145 #[.val (.int p1), .val (.int p2), .val (.long q3), .second, .val (.long q4), .second, .val (.long q5), .second, .val (.int (Int32.ofNat pN)), .val (.int (Int32.ofNat qN)), .val (.int (Int32.ofNat rN)), .val (.ref b6), .val (.ref b12), .val (.ref x), .unset, .unset, .unset, .unset, .unset] [(.int (Int32.ofNat qN)), (.ref b6)])) _
    refine st19.trans ?_
    show Steps p.tables e below (T19.setTop (mkF m 148 #[.val (.int p1), .val (.int p2), .val (.long q3), .second, .val (.long q4), .second, .val (.long q5), .second, .val (.int (Int32.ofNat pN)), .val (.int (Int32.ofNat qN)), .val (.int (Int32.ofNat rN)), .val (.ref b6), .val (.ref b12), .val (.ref x), .unset, .unset, .unset, .unset, .unset] [(.ref y)])) _
    refine XS.astore X19.here hx rfl (hb hby at_148) rfl rfl (l' := #[.val (.int p1), .val (.int p2), .val (.long q3), .second, .val (.long q4), .second, .val (.long q5), .second, .val (.int (Int32.ofNat pN)), .val (.int (Int32.ofNat qN)), .val (.int (Int32.ofNat rN)), .val (.ref b6), .val (.ref b12), .val (.ref x), .val (.ref y), .unset, .unset, .unset, .unset]) rfl ?_
    show Steps p.tables e below (T19.setTop (mkF m 150 #[.val (.int p1), .val (.int p2), .val (.long q3), .second, .val (.long q4), .second, .val (.long q5), .second, .val (.int (Int32.ofNat pN)), .val (.int (Int32.ofNat qN)), .val (.int (Int32.ofNat rN)), .val (.ref b6), .val (.ref b12), .val (.ref x), .val (.ref y), .unset, .unset, .unset, .unset] [])) _
    refine XS.aload X19.here hx rfl (hb hby at_150) rfl rfl ?_
    show Steps p.tables e below (T19.setTop (mkF m 152 #[.val (.int p1), .val (.int p2), .val (.long q3), .second, .val (.long q4), .second, .val (.long q5), .second, .val (.int (Int32.ofNat pN)), .val (.int (Int32.ofNat qN)), .val (.int (Int32.ofNat rN)), .val (.ref b6), .val (.ref b12), .val (.ref x), .val (.ref y), .unset, .unset, .unset, .unset] [(.ref b6)])) _
    refine XS.iload X19.here hx rfl (hb hby at_152) rfl ?_
    show Steps p.tables e below (T19.setTop (mkF m 154 #[.val (.int p1), .val (.int p2), .val (.long q3), .second, .val (.long q4), .second, .val (.long q5), .second, .val (.int (Int32.ofNat pN)), .val (.int (Int32.ofNat qN)), .val (.int (Int32.ofNat rN)), .val (.ref b6), .val (.ref b12), .val (.ref x), .val (.ref y), .unset, .unset, .unset, .unset] [(.int (Int32.ofNat rN)), (.ref b6)])) _
    refine st20.trans ?_
    show Steps p.tables e below (T20.setTop (mkF m 157 #[.val (.int p1), .val (.int p2), .val (.long q3), .second, .val (.long q4), .second, .val (.long q5), .second, .val (.int (Int32.ofNat pN)), .val (.int (Int32.ofNat qN)), .val (.int (Int32.ofNat rN)), .val (.ref b6), .val (.ref b12), .val (.ref x), .val (.ref y), .unset, .unset, .unset, .unset] [(.ref z)])) _
    refine XS.astore X20.here hx rfl (hb hby at_157) rfl rfl (l' := #[.val (.int p1), .val (.int p2), .val (.long q3), .second, .val (.long q4), .second, .val (.long q5), .second, .val (.int (Int32.ofNat pN)), .val (.int (Int32.ofNat qN)), .val (.int (Int32.ofNat rN)), .val (.ref b6), .val (.ref b12), .val (.ref x), .val (.ref y), .val (.ref z), .unset, .unset, .unset]) rfl ?_
    show Steps p.tables e below (T20.setTop (mkF m 159 #[.val (.int p1), .val (.int p2), .val (.long q3), .second, .val (.long q4), .second, .val (.long q5), .second, .val (.int (Int32.ofNat pN)), .val (.int (Int32.ofNat qN)), .val (.int (Int32.ofNat rN)), .val (.ref b6), .val (.ref b12), .val (.ref x), .val (.ref y), .val (.ref z), .unset, .unset, .unset] [])) _
    refine XS.aload X20.here hx rfl (hb hby at_159) rfl rfl ?_
    show Steps p.tables e below (T20.setTop (mkF m 161 #[.val (.int p1), .val (.int p2), .val (.long q3), .second, .val (.long q4), .second, .val (.long q5), .second, .val (.int (Int32.ofNat pN)), .val (.int (Int32.ofNat qN)), .val (.int (Int32.ofNat rN)), .val (.ref b6), .val (.ref b12), .val (.ref x), .val (.ref y), .val (.ref z), .unset, .unset, .unset] [(.ref x)])) _
    refine st21.trans ?_
    show Steps p.tables e below (T21.setTop (mkF m 164 #[.val (.int p1), .val (.int p2), .val (.long q3), .second, .val (.long q4), .second, .val (.long q5), .second, .val (.int (Int32.ofNat pN)), .val (.int (Int32.ofNat qN)), .val (.int (Int32.ofNat rN)), .val (.ref b6), .val (.ref b12), .val (.ref x), .val (.ref y), .val (.ref z), .unset, .unset, .unset] [(.long q5)])) _
    refine XS.lload X21.here hx rfl (hb hby at_164) rfl ?_
    show Steps p.tables e below (T21.setTop (mkF m 166 #[.val (.int p1), .val (.int p2), .val (.long q3), .second, .val (.long q4), .second, .val (.long q5), .second, .val (.int (Int32.ofNat pN)), .val (.int (Int32.ofNat qN)), .val (.int (Int32.ofNat rN)), .val (.ref b6), .val (.ref b12), .val (.ref x), .val (.ref y), .val (.ref z), .unset, .unset, .unset] [(.long q5), (.long q5)])) _
    refine XS.lcmp X21.here hx rfl (hb hby at_166) rfl ?_
    show Steps p.tables e below (T21.setTop (mkF m 167 #[.val (.int p1), .val (.int p2), .val (.long q3), .second, .val (.long q4), .second, .val (.long q5), .second, .val (.int (Int32.ofNat pN)), .val (.int (Int32.ofNat qN)), .val (.int (Int32.ofNat rN)), .val (.ref b6), .val (.ref b12), .val (.ref x), .val (.ref y), .val (.ref z), .unset, .unset, .unset] [(.int (lcmpW q5 q5))])) _
    refine XS.ifNo X21.here hx rfl (hb hby at_167) rfl ((if0 _ _).trans (teq ((lw_eq _ _).mpr rfl : (lcmpW q5 q5) = (0 : Int32))).2) ?_
    show Steps p.tables e below (T21.setTop (mkF m 170 #[.val (.int p1), .val (.int p2), .val (.long q3), .second, .val (.long q4), .second, .val (.long q5), .second, .val (.int (Int32.ofNat pN)), .val (.int (Int32.ofNat qN)), .val (.int (Int32.ofNat rN)), .val (.ref b6), .val (.ref b12), .val (.ref x), .val (.ref y), .val (.ref z), .unset, .unset, .unset] [])) _
    refine XS.aload X21.here hx rfl (hb hby at_170) rfl rfl ?_
    show Steps p.tables e below (T21.setTop (mkF m 172 #[.val (.int p1), .val (.int p2), .val (.long q3), .second, .val (.long q4), .second, .val (.long q5), .second, .val (.int (Int32.ofNat pN)), .val (.int (Int32.ofNat qN)), .val (.int (Int32.ofNat rN)), .val (.ref b6), .val (.ref b12), .val (.ref x), .val (.ref y), .val (.ref z), .unset, .unset, .unset] [(.ref x)])) _
    refine st22.trans ?_
    show Steps p.tables e below (T22.setTop (mkF m 175 #[.val (.int p1), .val (.int p2), .val (.long q3), .second, .val (.long q4), .second, .val (.long q5), .second, .val (.int (Int32.ofNat pN)), .val (.int (Int32.ofNat qN)), .val (.int (Int32.ofNat rN)), .val (.ref b6), .val (.ref b12), .val (.ref x), .val (.ref y), .val (.ref z), .unset, .unset, .unset] [(.long (q5 + (1 : Int64)))])) _
    refine XS.lload X22.here hx rfl (hb hby at_175) rfl ?_
    show Steps p.tables e below (T22.setTop (mkF m 177 #[.val (.int p1), .val (.int p2), .val (.long q3), .second, .val (.long q4), .second, .val (.long q5), .second, .val (.int (Int32.ofNat pN)), .val (.int (Int32.ofNat qN)), .val (.int (Int32.ofNat rN)), .val (.ref b6), .val (.ref b12), .val (.ref x), .val (.ref y), .val (.ref z), .unset, .unset, .unset] [(.long q5), (.long (q5 + (1 : Int64)))])) _
    refine XS.lconst X22.here hx rfl (hb hby at_177) ?_
    show Steps p.tables e below (T22.setTop (mkF m 178 #[.val (.int p1), .val (.int p2), .val (.long q3), .second, .val (.long q4), .second, .val (.long q5), .second, .val (.int (Int32.ofNat pN)), .val (.int (Int32.ofNat qN)), .val (.int (Int32.ofNat rN)), .val (.ref b6), .val (.ref b12), .val (.ref x), .val (.ref y), .val (.ref z), .unset, .unset, .unset] [(.long (1 : Int64)), (.long q5), (.long (q5 + (1 : Int64)))])) _
    refine XS.ladd X22.here hx rfl (hb hby at_178) rfl ?_
    show Steps p.tables e below (T22.setTop (mkF m 179 #[.val (.int p1), .val (.int p2), .val (.long q3), .second, .val (.long q4), .second, .val (.long q5), .second, .val (.int (Int32.ofNat pN)), .val (.int (Int32.ofNat qN)), .val (.int (Int32.ofNat rN)), .val (.ref b6), .val (.ref b12), .val (.ref x), .val (.ref y), .val (.ref z), .unset, .unset, .unset] [(.long (q5 + (1 : Int64))), (.long (q5 + (1 : Int64)))])) _
    refine XS.lcmp X22.here hx rfl (hb hby at_179) rfl ?_
    show Steps p.tables e below (T22.setTop (mkF m 180 #[.val (.int p1), .val (.int p2), .val (.long q3), .second, .val (.long q4), .second, .val (.long q5), .second, .val (.int (Int32.ofNat pN)), .val (.int (Int32.ofNat qN)), .val (.int (Int32.ofNat rN)), .val (.ref b6), .val (.ref b12), .val (.ref x), .val (.ref y), .val (.ref z), .unset, .unset, .unset] [(.int (lcmpW (q5 + (1 : Int64)) (q5 + (1 : Int64))))])) _
    refine XS.ifNo X22.here hx rfl (hb hby at_180) rfl ((if0 _ _).trans (teq ((lw_eq _ _).mpr rfl : (lcmpW (q5 + (1 : Int64)) (q5 + (1 : Int64))) = (0 : Int32))).2) ?_
    show Steps p.tables e below (T22.setTop (mkF m 183 #[.val (.int p1), .val (.int p2), .val (.long q3), .second, .val (.long q4), .second, .val (.long q5), .second, .val (.int (Int32.ofNat pN)), .val (.int (Int32.ofNat qN)), .val (.int (Int32.ofNat rN)), .val (.ref b6), .val (.ref b12), .val (.ref x), .val (.ref y), .val (.ref z), .unset, .unset, .unset] [])) _
    refine XS.aload X22.here hx rfl (hb hby at_183) rfl rfl ?_
    show Steps p.tables e below (T22.setTop (mkF m 185 #[.val (.int p1), .val (.int p2), .val (.long q3), .second, .val (.long q4), .second, .val (.long q5), .second, .val (.int (Int32.ofNat pN)), .val (.int (Int32.ofNat qN)), .val (.int (Int32.ofNat rN)), .val (.ref b6), .val (.ref b12), .val (.ref x), .val (.ref y), .val (.ref z), .unset, .unset, .unset] [(.ref x)])) _
    refine st23.trans ?_
    show Steps p.tables e below (T23.setTop (mkF m 188 #[.val (.int p1), .val (.int p2), .val (.long q3), .second, .val (.long q4), .second, .val (.long q5), .second, .val (.int (Int32.ofNat pN)), .val (.int (Int32.ofNat qN)), .val (.int (Int32.ofNat rN)), .val (.ref b6), .val (.ref b12), .val (.ref x), .val (.ref y), .val (.ref z), .unset, .unset, .unset] [(.long (q5 + (2 : Int64)))])) _
    refine XS.lload X23.here hx rfl (hb hby at_188) rfl ?_
    show Steps p.tables e below (T23.setTop (mkF m 190 #[.val (.int p1), .val (.int p2), .val (.long q3), .second, .val (.long q4), .second, .val (.long q5), .second, .val (.int (Int32.ofNat pN)), .val (.int (Int32.ofNat qN)), .val (.int (Int32.ofNat rN)), .val (.ref b6), .val (.ref b12), .val (.ref x), .val (.ref y), .val (.ref z), .unset, .unset, .unset] [(.long q5), (.long (q5 + (2 : Int64)))])) _
    refine X23.ldc2Long hx hown (mvT hZ (hw _ (List.mem_of_getElem? (i := 23) rfl))) (g := (mkF m 190 #[.val (.int p1), .val (.int p2), .val (.long q3), .second, .val (.long q4), .second, .val (.long q5), .second, .val (.int (Int32.ofNat pN)), .val (.int (Int32.ofNat qN)), .val (.int (Int32.ofNat rN)), .val (.ref b6), .val (.ref b12), .val (.ref x), .val (.ref y), .val (.ref z), .unset, .unset, .unset] [(.long q5), (.long (q5 + (2 : Int64)))])) rfl (hb hby at_190) _ ?_
    show Steps p.tables e below (T23.setTop (mkF m 193 #[.val (.int p1), .val (.int p2), .val (.long q3), .second, .val (.long q4), .second, .val (.long q5), .second, .val (.int (Int32.ofNat pN)), .val (.int (Int32.ofNat qN)), .val (.int (Int32.ofNat rN)), .val (.ref b6), .val (.ref b12), .val (.ref x), .val (.ref y), .val (.ref z), .unset, .unset, .unset] [(.long (2 : Int64)), (.long q5), (.long (q5 + (2 : Int64)))])) _
    refine XS.ladd X23.here hx rfl (hb hby at_193) rfl ?_
    show Steps p.tables e below (T23.setTop (mkF m 194 #[.val (.int p1), .val (.int p2), .val (.long q3), .second, .val (.long q4), .second, .val (.long q5), .second, .val (.int (Int32.ofNat pN)), .val (.int (Int32.ofNat qN)), .val (.int (Int32.ofNat rN)), .val (.ref b6), .val (.ref b12), .val (.ref x), .val (.ref y), .val (.ref z), .unset, .unset, .unset] [(.long (q5 + (2 : Int64))), (.long (q5 + (2 : Int64)))])) _
    refine XS.lcmp X23.here hx rfl (hb hby at_194) rfl ?_
    show Steps p.tables e below (T23.setTop (mkF m 195 #[.val (.int p1), .val (.int p2), .val (.long q3), .second, .val (.long q4), .second, .val (.long q5), .second, .val (.int (Int32.ofNat pN)), .val (.int (Int32.ofNat qN)), .val (.int (Int32.ofNat rN)), .val (.ref b6), .val (.ref b12), .val (.ref x), .val (.ref y), .val (.ref z), .unset, .unset, .unset] [(.int (lcmpW (q5 + (2 : Int64)) (q5 + (2 : Int64))))])) _
    refine XS.ifNo X23.here hx rfl (hb hby at_195) rfl ((if0 _ _).trans (teq ((lw_eq _ _).mpr rfl : (lcmpW (q5 + (2 : Int64)) (q5 + (2 : Int64))) = (0 : Int32))).2) ?_
    show Steps p.tables e below (T23.setTop (mkF m 198 #[.val (.int p1), .val (.int p2), .val (.long q3), .second, .val (.long q4), .second, .val (.long q5), .second, .val (.int (Int32.ofNat pN)), .val (.int (Int32.ofNat qN)), .val (.int (Int32.ofNat rN)), .val (.ref b6), .val (.ref b12), .val (.ref x), .val (.ref y), .val (.ref z), .unset, .unset, .unset] [])) _
    refine XS.aload X23.here hx rfl (hb hby at_198) rfl rfl ?_
    show Steps p.tables e below (T23.setTop (mkF m 200 #[.val (.int p1), .val (.int p2), .val (.long q3), .second, .val (.long q4), .second, .val (.long q5), .second, .val (.int (Int32.ofNat pN)), .val (.int (Int32.ofNat qN)), .val (.int (Int32.ofNat rN)), .val (.ref b6), .val (.ref b12), .val (.ref x), .val (.ref y), .val (.ref z), .unset, .unset, .unset] [(.ref x)])) _
    refine st24.trans ?_
    show Steps p.tables e below (T24.setTop (mkF m 203 #[.val (.int p1), .val (.int p2), .val (.long q3), .second, .val (.long q4), .second, .val (.long q5), .second, .val (.int (Int32.ofNat pN)), .val (.int (Int32.ofNat qN)), .val (.int (Int32.ofNat rN)), .val (.ref b6), .val (.ref b12), .val (.ref x), .val (.ref y), .val (.ref z), .unset, .unset, .unset] [(.long (q5 + (3 : Int64)))])) _
    refine XS.lload X24.here hx rfl (hb hby at_203) rfl ?_
    show Steps p.tables e below (T24.setTop (mkF m 205 #[.val (.int p1), .val (.int p2), .val (.long q3), .second, .val (.long q4), .second, .val (.long q5), .second, .val (.int (Int32.ofNat pN)), .val (.int (Int32.ofNat qN)), .val (.int (Int32.ofNat rN)), .val (.ref b6), .val (.ref b12), .val (.ref x), .val (.ref y), .val (.ref z), .unset, .unset, .unset] [(.long q5), (.long (q5 + (3 : Int64)))])) _
    refine X24.ldc2Long hx hown (mvT hZ (hw _ (List.mem_of_getElem? (i := 24) rfl))) (g := (mkF m 205 #[.val (.int p1), .val (.int p2), .val (.long q3), .second, .val (.long q4), .second, .val (.long q5), .second, .val (.int (Int32.ofNat pN)), .val (.int (Int32.ofNat qN)), .val (.int (Int32.ofNat rN)), .val (.ref b6), .val (.ref b12), .val (.ref x), .val (.ref y), .val (.ref z), .unset, .unset, .unset] [(.long q5), (.long (q5 + (3 : Int64)))])) rfl (hb hby at_205) _ ?_
    show Steps p.tables e below (T24.setTop (mkF m 208 #[.val (.int p1), .val (.int p2), .val (.long q3), .second, .val (.long q4), .second, .val (.long q5), .second, .val (.int (Int32.ofNat pN)), .val (.int (Int32.ofNat qN)), .val (.int (Int32.ofNat rN)), .val (.ref b6), .val (.ref b12), .val (.ref x), .val (.ref y), .val (.ref z), .unset, .unset, .unset] [(.long (3 : Int64)), (.long q5), (.long (q5 + (3 : Int64)))])) _
    refine XS.ladd X24.here hx rfl (hb hby at_208) rfl ?_
    show Steps p.tables e below (T24.setTop (mkF m 209 #[.val (.int p1), .val (.int p2), .val (.long q3), .second, .val (.long q4), .second, .val (.long q5), .second, .val (.int (Int32.ofNat pN)), .val (.int (Int32.ofNat qN)), .val (.int (Int32.ofNat rN)), .val (.ref b6), .val (.ref b12), .val (.ref x), .val (.ref y), .val (.ref z), .unset, .unset, .unset] [(.long (q5 + (3 : Int64))), (.long (q5 + (3 : Int64)))])) _
    refine XS.lcmp X24.here hx rfl (hb hby at_209) rfl ?_
    show Steps p.tables e below (T24.setTop (mkF m 210 #[.val (.int p1), .val (.int p2), .val (.long q3), .second, .val (.long q4), .second, .val (.long q5), .second, .val (.int (Int32.ofNat pN)), .val (.int (Int32.ofNat qN)), .val (.int (Int32.ofNat rN)), .val (.ref b6), .val (.ref b12), .val (.ref x), .val (.ref y), .val (.ref z), .unset, .unset, .unset] [(.int (lcmpW (q5 + (3 : Int64)) (q5 + (3 : Int64))))])) _
    refine XS.ifNo X24.here hx rfl (hb hby at_210) rfl ((if0 _ _).trans (teq ((lw_eq _ _).mpr rfl : (lcmpW (q5 + (3 : Int64)) (q5 + (3 : Int64))) = (0 : Int32))).2) ?_
    show Steps p.tables e below (T24.setTop (mkF m 213 #[.val (.int p1), .val (.int p2), .val (.long q3), .second, .val (.long q4), .second, .val (.long q5), .second, .val (.int (Int32.ofNat pN)), .val (.int (Int32.ofNat qN)), .val (.int (Int32.ofNat rN)), .val (.ref b6), .val (.ref b12), .val (.ref x), .val (.ref y), .val (.ref z), .unset, .unset, .unset] [])) _
    refine XS.aload X24.here hx rfl (hb hby at_213) rfl rfl ?_
    show Steps p.tables e below (T24.setTop (mkF m 215 #[.val (.int p1), .val (.int p2), .val (.long q3), .second, .val (.long q4), .second, .val (.long q5), .second, .val (.int (Int32.ofNat pN)), .val (.int (Int32.ofNat qN)), .val (.int (Int32.ofNat rN)), .val (.ref b6), .val (.ref b12), .val (.ref x), .val (.ref y), .val (.ref z), .unset, .unset, .unset] [(.ref x)])) _
    refine st25.trans ?_
    show Steps p.tables e below (T25.setTop (mkF m 218 #[.val (.int p1), .val (.int p2), .val (.long q3), .second, .val (.long q4), .second, .val (.long q5), .second, .val (.int (Int32.ofNat pN)), .val (.int (Int32.ofNat qN)), .val (.int (Int32.ofNat rN)), .val (.ref b6), .val (.ref b12), .val (.ref x), .val (.ref y), .val (.ref z), .unset, .unset, .unset] [(.long (q5 + (4 : Int64)))])) _
    refine XS.lload X25.here hx rfl (hb hby at_218) rfl ?_
    show Steps p.tables e below (T25.setTop (mkF m 220 #[.val (.int p1), .val (.int p2), .val (.long q3), .second, .val (.long q4), .second, .val (.long q5), .second, .val (.int (Int32.ofNat pN)), .val (.int (Int32.ofNat qN)), .val (.int (Int32.ofNat rN)), .val (.ref b6), .val (.ref b12), .val (.ref x), .val (.ref y), .val (.ref z), .unset, .unset, .unset] [(.long q5), (.long (q5 + (4 : Int64)))])) _
    refine X25.ldc2Long hx hown (mvT hZ (hw _ (List.mem_of_getElem? (i := 25) rfl))) (g := (mkF m 220 #[.val (.int p1), .val (.int p2), .val (.long q3), .second, .val (.long q4), .second, .val (.long q5), .second, .val (.int (Int32.ofNat pN)), .val (.int (Int32.ofNat qN)), .val (.int (Int32.ofNat rN)), .val (.ref b6), .val (.ref b12), .val (.ref x), .val (.ref y), .val (.ref z), .unset, .unset, .unset] [(.long q5), (.long (q5 + (4 : Int64)))])) rfl (hb hby at_220) _ ?_
    show Steps p.tables e below (T25.setTop (mkF m 223 #[.val (.int p1), .val (.int p2), .val (.long q3), .second, .val (.long q4), .second, .val (.long q5), .second, .val (.int (Int32.ofNat pN)), .val (.int (Int32.ofNat qN)), .val (.int (Int32.ofNat rN)), .val (.ref b6), .val (.ref b12), .val (.ref x), .val (.ref y), .val (.ref z), .unset, .unset, .unset] [(.long (4 : Int64)), (.long q5), (.long (q5 + (4 : Int64)))])) _
    refine XS.ladd X25.here hx rfl (hb hby at_223) rfl ?_
    show Steps p.tables e below (T25.setTop (mkF m 224 #[.val (.int p1), .val (.int p2), .val (.long q3), .second, .val (.long q4), .second, .val (.long q5), .second, .val (.int (Int32.ofNat pN)), .val (.int (Int32.ofNat qN)), .val (.int (Int32.ofNat rN)), .val (.ref b6), .val (.ref b12), .val (.ref x), .val (.ref y), .val (.ref z), .unset, .unset, .unset] [(.long (q5 + (4 : Int64))), (.long (q5 + (4 : Int64)))])) _
    refine XS.lcmp X25.here hx rfl (hb hby at_224) rfl ?_
    show Steps p.tables e below (T25.setTop (mkF m 225 #[.val (.int p1), .val (.int p2), .val (.long q3), .second, .val (.long q4), .second, .val (.long q5), .second, .val (.int (Int32.ofNat pN)), .val (.int (Int32.ofNat qN)), .val (.int (Int32.ofNat rN)), .val (.ref b6), .val (.ref b12), .val (.ref x), .val (.ref y), .val (.ref z), .unset, .unset, .unset] [(.int (lcmpW (q5 + (4 : Int64)) (q5 + (4 : Int64))))])) _
    refine XS.ifNo X25.here hx rfl (hb hby at_225) rfl ((if0 _ _).trans (teq ((lw_eq _ _).mpr rfl : (lcmpW (q5 + (4 : Int64)) (q5 + (4 : Int64))) = (0 : Int32))).2) ?_
    show Steps p.tables e below (T25.setTop (mkF m 228 #[.val (.int p1), .val (.int p2), .val (.long q3), .second, .val (.long q4), .second, .val (.long q5), .second, .val (.int (Int32.ofNat pN)), .val (.int (Int32.ofNat qN)), .val (.int (Int32.ofNat rN)), .val (.ref b6), .val (.ref b12), .val (.ref x), .val (.ref y), .val (.ref z), .unset, .unset, .unset] [])) _
    refine XS.aload X25.here hx rfl (hb hby at_228) rfl rfl ?_
    show Steps p.tables e below (T25.setTop (mkF m 230 #[.val (.int p1), .val (.int p2), .val (.long q3), .second, .val (.long q4), .second, .val (.long q5), .second, .val (.int (Int32.ofNat pN)), .val (.int (Int32.ofNat qN)), .val (.int (Int32.ofNat rN)), .val (.ref b6), .val (.ref b12), .val (.ref x), .val (.ref y), .val (.ref z), .unset, .unset, .unset] [(.ref x)])) _
    refine st26.trans ?_
    show Steps p.tables e below (T26.setTop (mkF m 233 #[.val (.int p1), .val (.int p2), .val (.long q3), .second, .val (.long q4), .second, .val (.long q5), .second, .val (.int (Int32.ofNat pN)), .val (.int (Int32.ofNat qN)), .val (.int (Int32.ofNat rN)), .val (.ref b6), .val (.ref b12), .val (.ref x), .val (.ref y), .val (.ref z), .unset, .unset, .unset] [(.long (q5 + (5 : Int64)))])) _
    refine XS.lload X26.here hx rfl (hb hby at_233) rfl ?_
    show Steps p.tables e below (T26.setTop (mkF m 235 #[.val (.int p1), .val (.int p2), .val (.long q3), .second, .val (.long q4), .second, .val (.long q5), .second, .val (.int (Int32.ofNat pN)), .val (.int (Int32.ofNat qN)), .val (.int (Int32.ofNat rN)), .val (.ref b6), .val (.ref b12), .val (.ref x), .val (.ref y), .val (.ref z), .unset, .unset, .unset] [(.long q5), (.long (q5 + (5 : Int64)))])) _
    refine X26.ldc2Long hx hown (mvT hZ (hw _ (List.mem_of_getElem? (i := 26) rfl))) (g := (mkF m 235 #[.val (.int p1), .val (.int p2), .val (.long q3), .second, .val (.long q4), .second, .val (.long q5), .second, .val (.int (Int32.ofNat pN)), .val (.int (Int32.ofNat qN)), .val (.int (Int32.ofNat rN)), .val (.ref b6), .val (.ref b12), .val (.ref x), .val (.ref y), .val (.ref z), .unset, .unset, .unset] [(.long q5), (.long (q5 + (5 : Int64)))])) rfl (hb hby at_235) _ ?_
    show Steps p.tables e below (T26.setTop (mkF m 238 #[.val (.int p1), .val (.int p2), .val (.long q3), .second, .val (.long q4), .second, .val (.long q5), .second, .val (.int (Int32.ofNat pN)), .val (.int (Int32.ofNat qN)), .val (.int (Int32.ofNat rN)), .val (.ref b6), .val (.ref b12), .val (.ref x), .val (.ref y), .val (.ref z), .unset, .unset, .unset] [(.long (5 : Int64)), (.long q5), (.long (q5 + (5 : Int64)))])) _
    refine XS.ladd X26.here hx rfl (hb hby at_238) rfl ?_
    show Steps p.tables e below (T26.setTop (mkF m 239 #[.val (.int p1), .val (.int p2), .val (.long q3), .second, .val (.long q4), .second, .val (.long q5), .second, .val (.int (Int32.ofNat pN)), .val (.int (Int32.ofNat qN)), .val (.int (Int32.ofNat rN)), .val (.ref b6), .val (.ref b12), .val (.ref x), .val (.ref y), .val (.ref z), .unset, .unset, .unset] [(.long (q5 + (5 : Int64))), (.long (q5 + (5 : Int64)))])) _
    refine XS.lcmp X26.here hx rfl (hb hby at_239) rfl ?_
    show Steps p.tables e below (T26.setTop (mkF m 240 #[.val (.int p1), .val (.int p2), .val (.long q3), .second, .val (.long q4), .second, .val (.long q5), .second, .val (.int (Int32.ofNat pN)), .val (.int (Int32.ofNat qN)), .val (.int (Int32.ofNat rN)), .val (.ref b6), .val (.ref b12), .val (.ref x), .val (.ref y), .val (.ref z), .unset, .unset, .unset] [(.int (lcmpW (q5 + (5 : Int64)) (q5 + (5 : Int64))))])) _
    refine XS.ifNo X26.here hx rfl (hb hby at_240) rfl ((if0 _ _).trans (teq ((lw_eq _ _).mpr rfl : (lcmpW (q5 + (5 : Int64)) (q5 + (5 : Int64))) = (0 : Int32))).2) ?_
    show Steps p.tables e below (T26.setTop (mkF m 243 #[.val (.int p1), .val (.int p2), .val (.long q3), .second, .val (.long q4), .second, .val (.long q5), .second, .val (.int (Int32.ofNat pN)), .val (.int (Int32.ofNat qN)), .val (.int (Int32.ofNat rN)), .val (.ref b6), .val (.ref b12), .val (.ref x), .val (.ref y), .val (.ref z), .unset, .unset, .unset] [])) _
    refine XS.aload X26.here hx rfl (hb hby at_243) rfl rfl ?_
    show Steps p.tables e below (T26.setTop (mkF m 245 #[.val (.int p1), .val (.int p2), .val (.long q3), .second, .val (.long q4), .second, .val (.long q5), .second, .val (.int (Int32.ofNat pN)), .val (.int (Int32.ofNat qN)), .val (.int (Int32.ofNat rN)), .val (.ref b6), .val (.ref b12), .val (.ref x), .val (.ref y), .val (.ref z), .unset, .unset, .unset] [(.ref x)])) _
    refine st27.trans ?_
    show Steps p.tables e below (T27.setTop (mkF m 248 #[.val (.int p1), .val (.int p2), .val (.long q3), .second, .val (.long q4), .second, .val (.long q5), .second, .val (.int (Int32.ofNat pN)), .val (.int (Int32.ofNat qN)), .val (.int (Int32.ofNat rN)), .val (.ref b6), .val (.ref b12), .val (.ref x), .val (.ref y), .val (.ref z), .unset, .unset, .unset] [(.long (q3 + (1 : Int64)))])) _
    refine XS.lloadN X27.here hx rfl (hb hby at_248) rfl ?_
    show Steps p.tables e below (T27.setTop (mkF m 249 #[.val (.int p1), .val (.int p2), .val (.long q3), .second, .val (.long q4), .second, .val (.long q5), .second, .val (.int (Int32.ofNat pN)), .val (.int (Int32.ofNat qN)), .val (.int (Int32.ofNat rN)), .val (.ref b6), .val (.ref b12), .val (.ref x), .val (.ref y), .val (.ref z), .unset, .unset, .unset] [(.long q3), (.long (q3 + (1 : Int64)))])) _
    refine XS.lconst X27.here hx rfl (hb hby at_249) ?_
    show Steps p.tables e below (T27.setTop (mkF m 250 #[.val (.int p1), .val (.int p2), .val (.long q3), .second, .val (.long q4), .second, .val (.long q5), .second, .val (.int (Int32.ofNat pN)), .val (.int (Int32.ofNat qN)), .val (.int (Int32.ofNat rN)), .val (.ref b6), .val (.ref b12), .val (.ref x), .val (.ref y), .val (.ref z), .unset, .unset, .unset] [(.long (1 : Int64)), (.long q3), (.long (q3 + (1 : Int64)))])) _
    refine XS.ladd X27.here hx rfl (hb hby at_250) rfl ?_
    show Steps p.tables e below (T27.setTop (mkF m 251 #[.val (.int p1), .val (.int p2), .val (.long q3), .second, .val (.long q4), .second, .val (.long q5), .second, .val (.int (Int32.ofNat pN)), .val (.int (Int32.ofNat qN)), .val (.int (Int32.ofNat rN)), .val (.ref b6), .val (.ref b12), .val (.ref x), .val (.ref y), .val (.ref z), .unset, .unset, .unset] [(.long (q3 + (1 : Int64))), (.long (q3 + (1 : Int64)))])) _
    refine XS.lcmp X27.here hx rfl (hb hby at_251) rfl ?_
    show Steps p.tables e below (T27.setTop (mkF m 252 #[.val (.int p1), .val (.int p2), .val (.long q3), .second, .val (.long q4), .second, .val (.long q5), .second, .val (.int (Int32.ofNat pN)), .val (.int (Int32.ofNat qN)), .val (.int (Int32.ofNat rN)), .val (.ref b6), .val (.ref b12), .val (.ref x), .val (.ref y), .val (.ref z), .unset, .unset, .unset] [(.int (lcmpW (q3 + (1 : Int64)) (q3 + (1 : Int64))))])) _
    refine XS.ifNo X27.here hx rfl (hb hby at_252) rfl ((if0 _ _).trans (teq ((lw_eq _ _).mpr rfl : (lcmpW (q3 + (1 : Int64)) (q3 + (1 : Int64))) = (0 : Int32))).2) ?_
    show Steps p.tables e below (T27.setTop (mkF m 255 #[.val (.int p1), .val (.int p2), .val (.long q3), .second, .val (.long q4), .second, .val (.long q5), .second, .val (.int (Int32.ofNat pN)), .val (.int (Int32.ofNat qN)), .val (.int (Int32.ofNat rN)), .val (.ref b6), .val (.ref b12), .val (.ref x), .val (.ref y), .val (.ref z), .unset, .unset, .unset] [])) _
    refine XS.iconst X27.here hx rfl (hb hby at_255) ?_
    show Steps p.tables e below (T27.setTop (mkF m 256 #[.val (.int p1), .val (.int p2), .val (.long q3), .second, .val (.long q4), .second, .val (.long q5), .second, .val (.int (Int32.ofNat pN)), .val (.int (Int32.ofNat qN)), .val (.int (Int32.ofNat rN)), .val (.ref b6), .val (.ref b12), .val (.ref x), .val (.ref y), .val (.ref z), .unset, .unset, .unset] [(.int (1 : Int32))])) _
    refine XS.goto X27.here hx rfl (pc0 := 256) (pc' := 260) rfl (hb hby at_256) (by decide) (by decide) ?_
    show Steps p.tables e below (T27.setTop (mkF m 260 #[.val (.int p1), .val (.int p2), .val (.long q3), .second, .val (.long q4), .second, .val (.long q5), .second, .val (.int (Int32.ofNat pN)), .val (.int (Int32.ofNat qN)), .val (.int (Int32.ofNat rN)), .val (.ref b6), .val (.ref b12), .val (.ref x), .val (.ref y), .val (.ref z), .unset, .unset, .unset] [(.int (1 : Int32))])) _
    refine XS.istore X27.here hx rfl (hb hby at_260) rfl (l' := #[.val (.int p1), .val (.int p2), .val (.long q3), .second, .val (.long q4), .second, .val (.long q5), .second, .val (.int (Int32.ofNat pN)), .val (.int (Int32.ofNat qN)), .val (.int (Int32.ofNat rN)), .val (.ref b6), .val (.ref b12), .val (.ref x), .val (.ref y), .val (.ref z), .val (.int (1 : Int32)), .unset, .unset]) rfl ?_
    show Steps p.tables e below (T27.setTop (mkF m 262 #[.val (.int p1), .val (.int p2), .val (.long q3), .second, .val (.long q4), .second, .val (.long q5), .second, .val (.int (Int32.ofNat pN)), .val (.int (Int32.ofNat qN)), .val (.int (Int32.ofNat rN)), .val (.ref b6), .val (.ref b12), .val (.ref x), .val (.ref y), .val (.ref z), .val (.int (1 : Int32)), .unset, .unset] [])) _
    refine XS.aload X27.here hx rfl (hb hby at_262) rfl rfl ?_
    show Steps p.tables e below (T27.setTop (mkF m 264 #[.val (.int p1), .val (.int p2), .val (.long q3), .second, .val (.long q4), .second, .val (.long q5), .second, .val (.int (Int32.ofNat pN)), .val (.int (Int32.ofNat qN)), .val (.int (Int32.ofNat rN)), .val (.ref b6), .val (.ref b12), .val (.ref x), .val (.ref y), .val (.ref z), .val (.int (1 : Int32)), .unset, .unset] [(.ref y)])) _
    refine st28 _ ?_
    show Steps p.tables e below (T28.setTop (mkF m 267 #[.val (.int p1), .val (.int p2), .val (.long q3), .second, .val (.long q4), .second, .val (.long q5), .second, .val (.int (Int32.ofNat pN)), .val (.int (Int32.ofNat qN)), .val (.int (Int32.ofNat rN)), .val (.ref b6), .val (.ref b12), .val (.ref x), .val (.ref y), .val (.ref z), .val (.int (1 : Int32)), .unset, .unset] [(.int (1 : Int32))])) _
    refine XS.ifNo X28.here hx rfl (hb hby at_267) rfl ((if0 _ _).trans (feq (by decide : ¬ ((1 : Int32) = (0 : Int32)))).1) ?_
    show Steps p.tables e below (T28.setTop (mkF m 270 #[.val (.int p1), .val (.int p2), .val (.long q3), .second, .val (.long q4), .second, .val (.long q5), .second, .val (.int (Int32.ofNat pN)), .val (.int (Int32.ofNat qN)), .val (.int (Int32.ofNat rN)), .val (.ref b6), .val (.ref b12), .val (.ref x), .val (.ref y), .val (.ref z), .val (.int (1 : Int32)), .unset, .unset] [])) _
    refine XS.aload X28.here hx rfl (hb hby at_270) rfl rfl ?_
    show Steps p.tables e below (T28.setTop (mkF m 272 #[.val (.int p1), .val (.int p2), .val (.long q3), .second, .val (.long q4), .second, .val (.long q5), .second, .val (.int (Int32.ofNat pN)), .val (.int (Int32.ofNat qN)), .val (.int (Int32.ofNat rN)), .val (.ref b6), .val (.ref b12), .val (.ref x), .val (.ref y), .val (.ref z), .val (.int (1 : Int32)), .unset, .unset] [(.ref y)])) _
    refine st29.trans ?_
    show Steps p.tables e below (T29.setTop (mkF m 275 #[.val (.int p1), .val (.int p2), .val (.long q3), .second, .val (.long q4), .second, .val (.long q5), .second, .val (.int (Int32.ofNat pN)), .val (.int (Int32.ofNat qN)), .val (.int (Int32.ofNat rN)), .val (.ref b6), .val (.ref b12), .val (.ref x), .val (.ref y), .val (.ref z), .val (.int (1 : Int32)), .unset, .unset] [(.long q4)])) _
    refine XS.lload X29.here hx rfl (hb hby at_275) rfl ?_
    show Steps p.tables e below (T29.setTop (mkF m 277 #[.val (.int p1), .val (.int p2), .val (.long q3), .second, .val (.long q4), .second, .val (.long q5), .second, .val (.int (Int32.ofNat pN)), .val (.int (Int32.ofNat qN)), .val (.int (Int32.ofNat rN)), .val (.ref b6), .val (.ref b12), .val (.ref x), .val (.ref y), .val (.ref z), .val (.int (1 : Int32)), .unset, .unset] [(.long q4), (.long q4)])) _
    refine XS.lcmp X29.here hx rfl (hb hby at_277) rfl ?_
    show Steps p.tables e below (T29.setTop (mkF m 278 #[.val (.int p1), .val (.int p2), .val (.long q3), .second, .val (.long q4), .second, .val (.long q5), .second, .val (.int (Int32.ofNat pN)), .val (.int (Int32.ofNat qN)), .val (.int (Int32.ofNat rN)), .val (.ref b6), .val (.ref b12), .val (.ref x), .val (.ref y), .val (.ref z), .val (.int (1 : Int32)), .unset, .unset] [(.int (lcmpW q4 q4))])) _
    refine XS.ifNo X29.here hx rfl (hb hby at_278) rfl ((if0 _ _).trans (teq ((lw_eq _ _).mpr rfl : (lcmpW q4 q4) = (0 : Int32))).2) ?_
    show Steps p.tables e below (T29.setTop (mkF m 281 #[.val (.int p1), .val (.int p2), .val (.long q3), .second, .val (.long q4), .second, .val (.long q5), .second, .val (.int (Int32.ofNat pN)), .val (.int (Int32.ofNat qN)), .val (.int (Int32.ofNat rN)), .val (.ref b6), .val (.ref b12), .val (.ref x), .val (.ref y), .val (.ref z), .val (.int (1 : Int32)), .unset, .unset] [])) _
    refine XS.iconst X29.here hx rfl (hb hby at_281) ?_
    show Steps p.tables e below (T29.setTop (mkF m 282 #[.val (.int p1), .val (.int p2), .val (.long q3), .second, .val (.long q4), .second, .val (.long q5), .second, .val (.int (Int32.ofNat pN)), .val (.int (Int32.ofNat qN)), .val (.int (Int32.ofNat rN)), .val (.ref b6), .val (.ref b12), .val (.ref x), .val (.ref y), .val (.ref z), .val (.int (1 : Int32)), .unset, .unset] [(.int (1 : Int32))])) _
    refine XS.goto X29.here hx rfl (pc0 := 282) (pc' := 286) rfl (hb hby at_282) (by decide) (by decide) ?_
    show Steps p.tables e below (T29.setTop (mkF m 286 #[.val (.int p1), .val (.int p2), .val (.long q3), .second, .val (.long q4), .second, .val (.long q5), .second, .val (.int (Int32.ofNat pN)), .val (.int (Int32.ofNat qN)), .val (.int (Int32.ofNat rN)), .val (.ref b6), .val (.ref b12), .val (.ref x), .val (.ref y), .val (.ref z), .val (.int (1 : Int32)), .unset, .unset] [(.int (1 : Int32))])) _
    refine XS.istore X29.here hx rfl (hb hby at_286) rfl (l' := #[.val (.int p1), .val (.int p2), .val (.long q3), .second, .val (.long q4), .second, .val (.long q5), .second, .val (.int (Int32.ofNat pN)), .val (.int (Int32.ofNat qN)), .val (.int (Int32.ofNat rN)), .val (.ref b6), .val (.ref b12), .val (.ref x), .val (.ref y), .val (.ref z), .val (.int (1 : Int32)), .val (.int (1 : Int32)), .unset]) rfl ?_
    show Steps p.tables e below (T29.setTop (mkF m 288 #[.val (.int p1), .val (.int p2), .val (.long q3), .second, .val (.long q4), .second, .val (.long q5), .second, .val (.int (Int32.ofNat pN)), .val (.int (Int32.ofNat qN)), .val (.int (Int32.ofNat rN)), .val (.ref b6), .val (.ref b12), .val (.ref x), .val (.ref y), .val (.ref z), .val (.int (1 : Int32)), .val (.int (1 : Int32)), .unset] [])) _
    refine XS.aload X29.here hx rfl (hb hby at_288) rfl rfl ?_
    show Steps p.tables e below (T29.setTop (mkF m 290 #[.val (.int p1), .val (.int p2), .val (.long q3), .second, .val (.long q4), .second, .val (.long q5), .second, .val (.int (Int32.ofNat pN)), .val (.int (Int32.ofNat qN)), .val (.int (Int32.ofNat rN)), .val (.ref b6), .val (.ref b12), .val (.ref x), .val (.ref y), .val (.ref z), .val (.int (1 : Int32)), .val (.int (1 : Int32)), .unset] [(.ref z)])) _
    refine st30 _ ?_
    show Steps p.tables e below (T30.setTop (mkF m 293 #[.val (.int p1), .val (.int p2), .val (.long q3), .second, .val (.long q4), .second, .val (.long q5), .second, .val (.int (Int32.ofNat pN)), .val (.int (Int32.ofNat qN)), .val (.int (Int32.ofNat rN)), .val (.ref b6), .val (.ref b12), .val (.ref x), .val (.ref y), .val (.ref z), .val (.int (1 : Int32)), .val (.int (1 : Int32)), .unset] [(.int (1 : Int32))])) _
    refine XS.ifNo X30.here hx rfl (hb hby at_293) rfl ((if0 _ _).trans (feq (by decide : ¬ ((1 : Int32) = (0 : Int32)))).1) ?_
    show Steps p.tables e below (T30.setTop (mkF m 296 #[.val (.int p1), .val (.int p2), .val (.long q3), .second, .val (.long q4), .second, .val (.long q5), .second, .val (.int (Int32.ofNat pN)), .val (.int (Int32.ofNat qN)), .val (.int (Int32.ofNat rN)), .val (.ref b6), .val (.ref b12), .val (.ref x), .val (.ref y), .val (.ref z), .val (.int (1 : Int32)), .val (.int (1 : Int32)), .unset] [])) _
    refine XS.aload X30.here hx rfl (hb hby at_296) rfl rfl ?_
    show Steps p.tables e below (T30.setTop (mkF m 298 #[.val (.int p1), .val (.int p2), .val (.long q3), .second, .val (.long q4), .second, .val (.long q5), .second, .val (.int (Int32.ofNat pN)), .val (.int (Int32.ofNat qN)), .val (.int (Int32.ofNat rN)), .val (.ref b6), .val (.ref b12), .val (.ref x), .val (.ref y), .val (.ref z), .val (.int (1 : Int32)), .val (.int (1 : Int32)), .unset] [(.ref z)])) _
    refine st31.trans ?_
    show Steps p.tables e below (T31.setTop (mkF m 301 #[.val (.int p1), .val (.int p2), .val (.long q3), .second, .val (.long q4), .second, .val (.long q5), .second, .val (.int (Int32.ofNat pN)), .val (.int (Int32.ofNat qN)), .val (.int (Int32.ofNat rN)), .val (.ref b6), .val (.ref b12), .val (.ref x), .val (.ref y), .val (.ref z), .val (.int (1 : Int32)), .val (.int (1 : Int32)), .unset] [(.long (0 : Int64))])) _
    refine XS.lconst X31.here hx rfl (hb hby at_301) ?_
    show Steps p.tables e below (T31.setTop (mkF m 302 #[.val (.int p1), .val (.int p2), .val (.long q3), .second, .val (.long q4), .second, .val (.long q5), .second, .val (.int (Int32.ofNat pN)), .val (.int (Int32.ofNat qN)), .val (.int (Int32.ofNat rN)), .val (.ref b6), .val (.ref b12), .val (.ref x), .val (.ref y), .val (.ref z), .val (.int (1 : Int32)), .val (.int (1 : Int32)), .unset] [(.long (0 : Int64)), (.long (0 : Int64))])) _
    refine XS.lcmp X31.here hx rfl (hb hby at_302) rfl ?_
    show Steps p.tables e below (T31.setTop (mkF m 303 #[.val (.int p1), .val (.int p2), .val (.long q3), .second, .val (.long q4), .second, .val (.long q5), .second, .val (.int (Int32.ofNat pN)), .val (.int (Int32.ofNat qN)), .val (.int (Int32.ofNat rN)), .val (.ref b6), .val (.ref b12), .val (.ref x), .val (.ref y), .val (.ref z), .val (.int (1 : Int32)), .val (.int (1 : Int32)), .unset] [(.int (lcmpW (0 : Int64) (0 : Int64)))])) _
    refine XS.ifNo X31.here hx rfl (hb hby at_303) rfl ((if0 _ _).trans (teq ((lw_eq _ _).mpr rfl : (lcmpW (0 : Int64) (0 : Int64)) = (0 : Int32))).2) ?_
    show Steps p.tables e below (T31.setTop (mkF m 306 #[.val (.int p1), .val (.int p2), .val (.long q3), .second, .val (.long q4), .second, .val (.long q5), .second, .val (.int (Int32.ofNat pN)), .val (.int (Int32.ofNat qN)), .val (.int (Int32.ofNat rN)), .val (.ref b6), .val (.ref b12), .val (.ref x), .val (.ref y), .val (.ref z), .val (.int (1 : Int32)), .val (.int (1 : Int32)), .unset] [])) _
    refine XS.iconst X31.here hx rfl (hb hby at_306) ?_
    show Steps p.tables e below (T31.setTop (mkF m 307 #[.val (.int p1), .val (.int p2), .val (.long q3), .second, .val (.long q4), .second, .val (.long q5), .second, .val (.int (Int32.ofNat pN)), .val (.int (Int32.ofNat qN)), .val (.int (Int32.ofNat rN)), .val (.ref b6), .val (.ref b12), .val (.ref x), .val (.ref y), .val (.ref z), .val (.int (1 : Int32)), .val (.int (1 : Int32)), .unset] [(.int (1 : Int32))])) _
    refine XS.goto X31.here hx rfl (pc0 := 307) (pc' := 311) rfl (hb hby at_307) (by decide) (by decide) ?_
    show Steps p.tables e below (T31.setTop (mkF m 311 #[.val (.int p1), .val (.int p2), .val (.long q3), .second, .val (.long q4), .second, .val (.long q5), .second, .val (.int (Int32.ofNat pN)), .val (.int (Int32.ofNat qN)), .val (.int (Int32.ofNat rN)), .val (.ref b6), .val (.ref b12), .val (.ref x), .val (.ref y), .val (.ref z), .val (.int (1 : Int32)), .val (.int (1 : Int32)), .unset] [(.int (1 : Int32))])) _
    refine XS.istore X31.here hx rfl (hb hby at_311) rfl (l' := #[.val (.int p1), .val (.int p2), .val (.long q3), .second, .val (.long q4), .second, .val (.long q5), .second, .val (.int (Int32.ofNat pN)), .val (.int (Int32.ofNat qN)), .val (.int (Int32.ofNat rN)), .val (.ref b6), .val (.ref b12), .val (.ref x), .val (.ref y), .val (.ref z), .val (.int (1 : Int32)), .val (.int (1 : Int32)), .val (.int (1 : Int32))]) rfl ?_
    show Steps p.tables e below (T31.setTop (mkF m 313 #[.val (.int p1), .val (.int p2), .val (.long q3), .second, .val (.long q4), .second, .val (.long q5), .second, .val (.int (Int32.ofNat pN)), .val (.int (Int32.ofNat qN)), .val (.int (Int32.ofNat rN)), .val (.ref b6), .val (.ref b12), .val (.ref x), .val (.ref y), .val (.ref z), .val (.int (1 : Int32)), .val (.int (1 : Int32)), .val (.int (1 : Int32))] [])) _
    refine XS.iload X31.here hx rfl (hb hby at_313) rfl ?_
    show Steps p.tables e below (T31.setTop (mkF m 315 #[.val (.int p1), .val (.int p2), .val (.long q3), .second, .val (.long q4), .second, .val (.long q5), .second, .val (.int (Int32.ofNat pN)), .val (.int (Int32.ofNat qN)), .val (.int (Int32.ofNat rN)), .val (.ref b6), .val (.ref b12), .val (.ref x), .val (.ref y), .val (.ref z), .val (.int (1 : Int32)), .val (.int (1 : Int32)), .val (.int (1 : Int32))] [(.int (1 : Int32))])) _
    refine XS.ifNo X31.here hx rfl (hb hby at_315) rfl ((if0 _ _).trans (feq hc315).1) ?_
    show Steps p.tables e below (T31.setTop (mkF m 318 #[.val (.int p1), .val (.int p2), .val (.long q3), .second, .val (.long q4), .second, .val (.long q5), .second, .val (.int (Int32.ofNat pN)), .val (.int (Int32.ofNat qN)), .val (.int (Int32.ofNat rN)), .val (.ref b6), .val (.ref b12), .val (.ref x), .val (.ref y), .val (.ref z), .val (.int (1 : Int32)), .val (.int (1 : Int32)), .val (.int (1 : Int32))] [])) _
    refine XS.iload X31.here hx rfl (hb hby at_318) rfl ?_
    show Steps p.tables e below (T31.setTop (mkF m 320 #[.val (.int p1), .val (.int p2), .val (.long q3), .second, .val (.long q4), .second, .val (.long q5), .second, .val (.int (Int32.ofNat pN)), .val (.int (Int32.ofNat qN)), .val (.int (Int32.ofNat rN)), .val (.ref b6), .val (.ref b12), .val (.ref x), .val (.ref y), .val (.ref z), .val (.int (1 : Int32)), .val (.int (1 : Int32)), .val (.int (1 : Int32))] [(.int (1 : Int32))])) _
    refine XS.ifNo X31.here hx rfl (hb hby at_320) rfl ((if0 _ _).trans (feq hc320).1) ?_
    show Steps p.tables e below (T31.setTop (mkF m 323 #[.val (.int p1), .val (.int p2), .val (.long q3), .second, .val (.long q4), .second, .val (.long q5), .second, .val (.int (Int32.ofNat pN)), .val (.int (Int32.ofNat qN)), .val (.int (Int32.ofNat rN)), .val (.ref b6), .val (.ref b12), .val (.ref x), .val (.ref y), .val (.ref z), .val (.int (1 : Int32)), .val (.int (1 : Int32)), .val (.int (1 : Int32))] [])) _
    refine XS.iload X31.here hx rfl (hb hby at_323) rfl ?_
    show Steps p.tables e below (T31.setTop (mkF m 325 #[.val (.int p1), .val (.int p2), .val (.long q3), .second, .val (.long q4), .second, .val (.long q5), .second, .val (.int (Int32.ofNat pN)), .val (.int (Int32.ofNat qN)), .val (.int (Int32.ofNat rN)), .val (.ref b6), .val (.ref b12), .val (.ref x), .val (.ref y), .val (.ref z), .val (.int (1 : Int32)), .val (.int (1 : Int32)), .val (.int (1 : Int32))] [(.int (1 : Int32))])) _
    refine XS.ifNo X31.here hx rfl (hb hby at_325) rfl ((if0 _ _).trans (feq hc325).1) ?_
    show Steps p.tables e below (T31.setTop (mkF m 328 #[.val (.int p1), .val (.int p2), .val (.long q3), .second, .val (.long q4), .second, .val (.long q5), .second, .val (.int (Int32.ofNat pN)), .val (.int (Int32.ofNat qN)), .val (.int (Int32.ofNat rN)), .val (.ref b6), .val (.ref b12), .val (.ref x), .val (.ref y), .val (.ref z), .val (.int (1 : Int32)), .val (.int (1 : Int32)), .val (.int (1 : Int32))] [])) _
    refine XS.iconst X31.here hx rfl (hb hby at_328) ?_
    show Steps p.tables e below (T31.setTop (mkF m 329 #[.val (.int p1), .val (.int p2), .val (.long q3), .second, .val (.long q4), .second, .val (.long q5), .second, .val (.int (Int32.ofNat pN)), .val (.int (Int32.ofNat qN)), .val (.int (Int32.ofNat rN)), .val (.ref b6), .val (.ref b12), .val (.ref x), .val (.ref y), .val (.ref z), .val (.int (1 : Int32)), .val (.int (1 : Int32)), .val (.int (1 : Int32))] [(.int (1 : Int32))])) _
    refine XS.goto X31.here hx rfl (pc0 := 329) (pc' := 333) rfl (hb hby at_329) (by decide) (by decide) ?_
    show Steps p.tables e below (T31.setTop (mkF m 333 #[.val (.int p1), .val (.int p2), .val (.long q3), .second, .val (.long q4), .second, .val (.long q5), .second, .val (.int (Int32.ofNat pN)), .val (.int (Int32.ofNat qN)), .val (.int (Int32.ofNat rN)), .val (.ref b6), .val (.ref b12), .val (.ref x), .val (.ref y), .val (.ref z), .val (.int (1 : Int32)), .val (.int (1 : Int32)), .val (.int (1 : Int32))] [(.int (1 : Int32))])) _
    exact retN X31 hx (t := .boolean) Bd.returns (by simp) (hb hby at_333) hr
  · show Q0 Z p1 p2 q3 q4 q5 h0 n0 _ T31.heap _
    exact ⟨rfl, N31⟩
set_option maxRecDepth 65536 in
set_option maxHeartbeats 40000000 in
theorem comes_1 {Post : Tables → Env → Array Value → State → Outcome → State → Prop} (hpost : ∀ tb e args s v u, (limb_1_1.after args s (.returned v) u = true ∧ limb_1_2.after args s (.returned v) u = true ∧ True) → FrameEnd s (.returned v) u (Jvm.fieldLocs frame_1_writes args s ++ Jvm.arrayLocs frame_1_arrays args s ++ Jvm.staticLocs frame_1_statics s) 24 192 → Post tb e args s (.returned v) u) :
    ArmFor flags0 classFile x code maxLocals ret World_1 tables_1 room_1 Calls_1 rest_1 Pre_1 Post := by
  intro l hfl _ _ p e ha hc hk s m args below hf hA hF happ hP
  obtain ⟨hcalls, hrest, hpre⟩ := hP
  obtain ⟨-, -, -, hnamed, -, -, -, hat⟩ := (Spec.applies_iff hf).mp happ
  obtain ⟨hg, hn⟩ := and_e (Cond.before_iff.mp (show (Jvm.Cond.and given_1 narrow_1).before args s = true from hpre))
  obtain ⟨g32, g33⟩ := and_e hg
  obtain ⟨g34, g35⟩ := and_e g33
  obtain ⟨g36, g37⟩ := and_e g35
  obtain ⟨g38, g39⟩ := and_e g37
  obtain ⟨g40, g41⟩ := and_e g39
  obtain ⟨w0, w1, w2, w3, w4, rfl⟩ : ∃ w0 w1 w2 w3 w4 : Value, args = #[w0, w1, w2, w3, w4] := by
    have hs : args.size = 5 := by simpa [Cond.value, given_1] using g32
    obtain ⟨L⟩ := args
    match L, hs with
    | [w0, w1, w2, w3, w4], _ => exact ⟨w0, w1, w2, w3, w4, rfl⟩
  have hw := fun d (hd : d ∈ tables_1) => atoms_spec (ws := Jvm.Cond.code x code maxLocals ret :: tables_1) hat d (List.mem_cons_of_mem _ hd)
  have hfit : Fit s := fun {y c} hc i hi => by
    obtain ⟨ha, rfl⟩ := Array.getElem?_eq_some_iff.mp hc
    have q := List.all_eq_true.mp ((Array.all_eq_true_iff_forall_mem.mp hF) _ (Array.getElem_mem ha)) i (List.mem_range.mpr hi)
    simpa [Array.getElem?_eq_getElem hi] using q
  obtain ⟨i0, ei0⟩ := is_v g34
  obtain rfl : w0 = (.int i0) := Option.some.inj ei0
  obtain ⟨i1, ei1⟩ := is_v g36
  obtain rfl : w1 = (.int i1) := Option.some.inj ei1
  obtain ⟨i2, ei2⟩ := isL_v g38
  obtain rfl : w2 = (.long i2) := Option.some.inj ei2
  obtain ⟨i3, ei3⟩ := isL_v g40
  obtain rfl : w3 = (.long i3) := Option.some.inj ei3
  obtain ⟨i4, ei4⟩ := isL_v g41
  obtain rfl : w4 = (.long i4) := Option.some.inj ei4
  obtain ⟨n, o, h1, h2, h3, _, L, rfl, ⟨rfl, N⟩, hq⟩ := rm0 l s _ hw tables_1 i0 i1 i2 i3 i4 s.heap s.heap.size (Nat.le_refl _) (by decide) (by decide) (by decide) p e ha hc hk s m _ below hf ((Spec.applies_iff_loose hf).mp happ).1 ⟨rfl, State.Warmed39.refl s, rfl⟩ trivial
  refine ⟨n, _, h1, h2, h3, hpost _ _ _ _ _ _ ⟨Cond.after_iff.mpr rfl, Cond.after_iff.mpr (eq_i res_at (Term.int_eval (1)) rfl), trivial⟩ ⟨hq.1, hq.2.1, (hq.2.2.sift fun y hy => Or.inr (N y hy)).mono (by decide) (by decide)⟩⟩
theorem main_1_1 : Claimed_1_1 := comes_1 fun _ _ _ _ _ _ h hF => ⟨h.1, hF⟩
theorem main_1_2 : Claimed_1_2 := comes_1 fun _ _ _ _ _ _ h hF => ⟨h.2.1, hF⟩

end Jvm.Pilot.@@N@@
namespace Jvm.Pilot.@@N@@
open Jvm Jvm.ClassFile Sem Op Lib Jvm.Free Jvm.Stand Jvm.Pilot.@@N@@.Jvm.D
/-! MADE BY PROGRAM (witnessworld.py) out of the Statement's table words and the real class files: 14 classes; the members and pool entries that the words name. The judged class is class 1, her method 2. -/
namespace start1
open Jvm.ClassFile
def u (s : String) : CpInfo := .utf8 (stringToUtf16 s)
/-- a pool by its gaps: so many unusable entries, then the entry; so many at the end -/
def gap : Nat → List CpInfo → List CpInfo
  | 0, r => r
  | n + 1, r => .unusable :: gap n r
def poolList (es : List (Nat × CpInfo)) (last : Nat) : List CpInfo := es.foldr (fun e r => gap e.1 (e.2 :: r)) (gap last [])
def pool (es : List (Nat × CpInfo)) (last : Nat) : Array CpInfo := ⟨poolList es last⟩
def fileOf (pool : Array CpInfo) (this : Nat) (attrs : Array Attribute := #[]) (ms : Array MethodInfo := #[]) (fl : Nat := 33) (sup : Nat := 0) (ifs : Array Nat := #[]) (fds : Array FieldInfo := #[]) : ClassFile where
  minorVersion := 0
  majorVersion := 65
  constantPool := pool
  accessFlags := fl
  thisClass := this
  superClass := sup
  interfaces := ifs
  fields := fds
  methods := ms
  attributes := attrs
def plain (name : String) (sup : Option ClassId) : Class where
  name := name
  kind := .ordinary
  loader := none
  accessFlags := 33
  super := sup
  interfaces := #[]
  cf := none
  fields := #[]
  methods := #[]
  instanceTypes := #[]
  staticTypes := #[]
  resolved := #[]
  callSites := []
  init := .initialized
  statics := none
  mirror := none

def pool0 : Array CpInfo := pool [(5, u "<init>"), (0, u "()V"), (1, .class_ 10), (1, u "java/lang/Object")] 113

def k0c0 : Code := { maxStack := 0, maxLocals := 1, code := object_method_1_code, exceptionTable := #[], attributes := #[] }
def k0m0 : Method := { name := "<init>", desc := "()V", sig := { parameters := [], returnType := none }, accessFlags := 1, code := some k0c0 }
/-- java/lang/Object -/
def k0 : Class := { plain "java/lang/Object" none with
  accessFlags := 33
  interfaces := #[]
  cf := some (fileOf pool0 8 #[] #[{ accessFlags := 1, nameIndex := 5, descriptorIndex := 6, attributes := #[] }] 33 0 #[] #[])
  fields := #[]
  methods := #[k0m0]
  instanceTypes := #[]
  staticTypes := #[]
  resolved := Array.replicate 124 none
  statics := none }

def pool1 : Array CpInfo := pool [(2, .class_ 4), (1, u "java/lang/Object"), (0, u "<init>"), (0, u "()V"), (0, .methodref 8 9), (0, .class_ 10), (0, .nameAndType 11 12), (0, u "com/example/vestry/vestry/rules/Allocated"), (0, u "compensation"), (0, u "()J"), (0, .methodref 8 14), (0, .nameAndType 15 12), (0, u "cappedCompensation"), (0, .methodref 8 17), (0, .nameAndType 18 12), (0, u "deferrals"), (0, .methodref 8 20), (0, .nameAndType 21 12), (0, u "catchUp"), (0, .methodref 8 23), (0, .nameAndType 24 12), (0, u "excessDeferrals"), (0, .methodref 8 26), (0, .nameAndType 27 12), (0, u "match"), (0, .integer 2147483647), (0, .class_ 30), (0, u "com/example/vestry/vestry/rules/Allocations"), (0, .methodref 29 32), (0, .nameAndType 5 33), (0, u "([II)V"), (0, .long 2), (1, .long 3), (1, .long 4), (1, .long 5), (1, .long 6), (1, .methodref 8 45), (0, .nameAndType 5 46), (0, u "(JJJJJJJ)V"), (0, .methodref 29 48), (0, .nameAndType 49 50), (0, u "set"), (0, u "(ILcom/example/vestry/vestry/rules/Allocated;)V"), (0, .methodref 29 52), (0, .nameAndType 53 54), (0, u "setProfitSharing"), (0, u "(IJ)V"), (0, .methodref 29 56), (0, .nameAndType 57 58), (0, u "addProfitSharingCent"), (0, u "(I)V"), (0, .methodref 29 60), (0, .nameAndType 61 62), (0, u "of"), (0, u "(I)Lcom/example/vestry/vestry/rules/Allocated;"), (0, .methodref 8 64), (0, .nameAndType 65 12), (0, u "profitSharing"), (0, .methodref 67 68), (0, .class_ 69), (0, .nameAndType 70 71), (0, u "com/example/vestry/vestry/rules/AllocationsAddProfitSharingCentPinLaw"), (0, u "zeroSave"), (0, u "(Lcom/example/vestry/vestry/rules/Allocated;)Z"), (3, u "law"), (0, u "(IIJJJ)Z")] 2

def k1m0 : Method := { name := "<init>", desc := "()V", sig := { parameters := [], returnType := none }, accessFlags := 2, code := none }
def k1c1 : Code := { maxStack := 4, maxLocals := 1, code := method_2_code, exceptionTable := #[], attributes := #[] }
def k1m1 : Method := { name := "zeroSave", desc := "(Lcom/example/vestry/vestry/rules/Allocated;)Z", sig := { parameters := [(.object "com/example/vestry/vestry/rules/Allocated")], returnType := some .boolean }, accessFlags := 10, code := some k1c1 }
def k1c2 : Code := { maxStack := 18, maxLocals := 19, code := code, exceptionTable := #[], attributes := #[] }
def k1m2 : Method := { name := "law", desc := "(IIJJJ)Z", sig := { parameters := [.int, .int, .long, .long, .long], returnType := some .boolean }, accessFlags := 9, code := some k1c2 }
/-- com/example/vestry/vestry/rules/AllocationsAddProfitSharingCentPinLaw -/
def k1 : Class := { plain "com/example/vestry/vestry/rules/AllocationsAddProfitSharingCentPinLaw" (some 0) with
  accessFlags := 49
  interfaces := #[]
  cf := some (fileOf pool1 67 #[] #[{ accessFlags := 2, nameIndex := 5, descriptorIndex := 6, attributes := #[] }, { accessFlags := 10, nameIndex := 70, descriptorIndex := 71, attributes := #[] }, { accessFlags := 9, nameIndex := 75, descriptorIndex := 76, attributes := #[] }] 49 2 #[] #[])
  fields := #[]
  methods := #[k1m0, k1m1, k1m2]
  instanceTypes := #[]
  staticTypes := #[]
  resolved := Array.replicate 79 none
  statics := none }

def pool2 : Array CpInfo := pool [(1, .methodref 2 3), (0, .class_ 4), (0, .nameAndType 5 6), (0, u "java/lang/Object"), (0, u "<init>"), (0, u "()V"), (0, .fieldref 8 9), (0, .class_ 10), (0, .nameAndType 11 12), (0, u "com/example/vestry/vestry/rules/Allocations"), (0, u "participants"), (0, u "[I"), (0, .methodref 14 15), (0, .class_ 16), (0, .nameAndType 17 18), (0, u "java/lang/Math"), (0, u "multiplyExact"), (0, u "(II)I"), (0, .fieldref 8 20), (0, .nameAndType 21 22), (0, u "cents"), (0, u "[J"), (5, .class_ 29), (0, u "com/example/vestry/vestry/rules/Allocated"), (0, .methodref 28 31), (0, .nameAndType 5 32), (0, u "(JJJJJJJ)V"), (0, .methodref 28 34), (0, .nameAndType 35 36), (0, u "compensation"), (0, u "()J"), (0, .methodref 28 38), (0, .nameAndType 39 36), (0, u "cappedCompensation"), (0, .methodref 28 41), (0, .nameAndType 42 36), (0, u "deferrals"), (0, .methodref 28 44), (0, .nameAndType 45 36), (0, u "catchUp"), (0, .methodref 28 47), (0, .nameAndType 48 36), (0, u "excessDeferrals"), (0, .methodref 28 50), (0, .nameAndType 51 36), (0, u "match"), (0, u "COMPENSATION"), (0, u "I"), (2, u "CAPPED_COMPENSATION"), (1, u "DEFERRALS"), (1, u "CATCH_UP"), (1, u "EXCESS_DEFERRALS"), (1, u "MATCH"), (1, u "PROFIT_SHARING"), (1, u "AMOUNTS"), (1, u "([II)V"), (3, u "of"), (0, u "(I)Lcom/example/vestry/vestry/rules/Allocated;"), (0, u "set"), (0, u "(ILcom/example/vestry/vestry/rules/Allocated;)V"), (0, u "setProfitSharing"), (0, u "(IJ)V"), (0, u "addProfitSharingCent"), (0, u "(I)V")] 2

def k2c0 : Code := { maxStack := 3, maxLocals := 3, code := prog_95_method_1_code, exceptionTable := #[], attributes := #[] }
def k2m0 : Method := { name := "<init>", desc := "([II)V", sig := { parameters := [(.array .int), .int], returnType := none }, accessFlags := 0, code := some k2c0 }
def k2c1 : Code := { maxStack := 17, maxLocals := 3, code := prog_95_method_3_code, exceptionTable := #[], attributes := #[] }
def k2m1 : Method := { name := "of", desc := "(I)Lcom/example/vestry/vestry/rules/Allocated;", sig := { parameters := [.int], returnType := some (.object "com/example/vestry/vestry/rules/Allocated") }, accessFlags := 1, code := some k2c1 }
def k2c2 : Code := { maxStack := 4, maxLocals := 4, code := prog_95_method_4_code, exceptionTable := #[], attributes := #[] }
def k2m2 : Method := { name := "set", desc := "(ILcom/example/vestry/vestry/rules/Allocated;)V", sig := { parameters := [.int, (.object "com/example/vestry/vestry/rules/Allocated")], returnType := none }, accessFlags := 0, code := some k2c2 }
def k2c3 : Code := { maxStack := 4, maxLocals := 4, code := prog_95_method_5_code, exceptionTable := #[], attributes := #[] }
def k2m3 : Method := { name := "setProfitSharing", desc := "(IJ)V", sig := { parameters := [.int, .long], returnType := none }, accessFlags := 0, code := some k2c3 }
def k2c4 : Code := { maxStack := 6, maxLocals := 2, code := prog_95_method_6_code, exceptionTable := #[], attributes := #[] }
def k2m4 : Method := { name := "addProfitSharingCent", desc := "(I)V", sig := { parameters := [.int], returnType := none }, accessFlags := 0, code := some k2c4 }
/-- com/example/vestry/vestry/rules/Allocations -/
def k2 : Class := { plain "com/example/vestry/vestry/rules/Allocations" (some 0) with
  accessFlags := 49
  interfaces := #[]
  cf := some (fileOf pool2 8 #[] #[{ accessFlags := 0, nameIndex := 5, descriptorIndex := 70, attributes := #[] }, { accessFlags := 1, nameIndex := 74, descriptorIndex := 75, attributes := #[] }, { accessFlags := 0, nameIndex := 76, descriptorIndex := 77, attributes := #[] }, { accessFlags := 0, nameIndex := 78, descriptorIndex := 79, attributes := #[] }, { accessFlags := 0, nameIndex := 80, descriptorIndex := 81, attributes := #[] }] 49 2 #[] #[{ accessFlags := 26, nameIndex := 52, descriptorIndex := 53, attributes := #[] }, { accessFlags := 26, nameIndex := 56, descriptorIndex := 53, attributes := #[] }, { accessFlags := 26, nameIndex := 58, descriptorIndex := 53, attributes := #[] }, { accessFlags := 26, nameIndex := 60, descriptorIndex := 53, attributes := #[] }, { accessFlags := 26, nameIndex := 62, descriptorIndex := 53, attributes := #[] }, { accessFlags := 26, nameIndex := 64, descriptorIndex := 53, attributes := #[] }, { accessFlags := 26, nameIndex := 66, descriptorIndex := 53, attributes := #[] }, { accessFlags := 26, nameIndex := 68, descriptorIndex := 53, attributes := #[] }, { accessFlags := 18, nameIndex := 11, descriptorIndex := 12, attributes := #[] }, { accessFlags := 18, nameIndex := 21, descriptorIndex := 22, attributes := #[] }])
  fields := #[{ name := "COMPENSATION", type := .int, accessFlags := 26, slot := 0, constantValue := 0 }, { name := "CAPPED_COMPENSATION", type := .int, accessFlags := 26, slot := 1, constantValue := 0 }, { name := "DEFERRALS", type := .int, accessFlags := 26, slot := 2, constantValue := 0 }, { name := "CATCH_UP", type := .int, accessFlags := 26, slot := 3, constantValue := 0 }, { name := "EXCESS_DEFERRALS", type := .int, accessFlags := 26, slot := 4, constantValue := 0 }, { name := "MATCH", type := .int, accessFlags := 26, slot := 5, constantValue := 0 }, { name := "PROFIT_SHARING", type := .int, accessFlags := 26, slot := 6, constantValue := 0 }, { name := "AMOUNTS", type := .int, accessFlags := 26, slot := 7, constantValue := 0 }, { name := "participants", type := (.array .int), accessFlags := 18, slot := 0, constantValue := 0 }, { name := "cents", type := (.array .long), accessFlags := 18, slot := 1, constantValue := 0 }]
  methods := #[k2m0, k2m1, k2m2, k2m3, k2m4]
  instanceTypes := #[(.array .int), (.array .long)]
  staticTypes := #[.int, .int, .int, .int, .int, .int, .int, .int]
  resolved := Array.replicate 84 none
  statics := none }

def pool3 : Array CpInfo := pool [(1, .class_ 2), (0, u "java/lang/Math"), (1, .class_ 6), (1, u "java/lang/Object"), (0, u "<init>"), (0, u "()V"), (89, .class_ 100), (1, u "java/lang/Math$RandomNumberGeneratorHolder"), (19, u "multiplyExact"), (51, u "negativeZeroFloatBits"), (0, u "J"), (2, u "negativeZeroDoubleBits"), (68, u "$assertionsDisabled"), (0, u "Z"), (88, u "(II)I"), (2, u "twoToTheDoubleScaleDown"), (0, u "D"), (4, u "twoToTheDoubleScaleUp"), (9, u "E"), (3, u "PI"), (2, u "TAU"), (2, u "DEGREES_TO_RADIANS"), (0, u "RADIANS_TO_DEGREES")] 94

def k3m0 : Method := { name := "<init>", desc := "()V", sig := { parameters := [], returnType := none }, accessFlags := 2, code := none }
def k3c1 : Code := { maxStack := 4, maxLocals := 4, code := jdk_29_method_28_code, exceptionTable := #[], attributes := #[] }
def k3m1 : Method := { name := "multiplyExact", desc := "(II)I", sig := { parameters := [.int, .int], returnType := some .int }, accessFlags := 9, code := some k3c1 }
/-- java/lang/Math -/
def k3 : Class := { plain "java/lang/Math" (some 0) with
  accessFlags := 49
  interfaces := #[]
  cf := some (fileOf pool3 1 #[.nestMembers #[98]] #[{ accessFlags := 2, nameIndex := 7, descriptorIndex := 8, attributes := #[] }, { accessFlags := 9, nameIndex := 120, descriptorIndex := 335, attributes := #[] }] 49 4 #[] #[{ accessFlags := 25, nameIndex := 354, descriptorIndex := 339, attributes := #[] }, { accessFlags := 25, nameIndex := 358, descriptorIndex := 339, attributes := #[] }, { accessFlags := 25, nameIndex := 361, descriptorIndex := 339, attributes := #[] }, { accessFlags := 26, nameIndex := 364, descriptorIndex := 339, attributes := #[] }, { accessFlags := 26, nameIndex := 365, descriptorIndex := 339, attributes := #[] }, { accessFlags := 26, nameIndex := 172, descriptorIndex := 173, attributes := #[] }, { accessFlags := 26, nameIndex := 176, descriptorIndex := 173, attributes := #[] }, { accessFlags := 8, nameIndex := 344, descriptorIndex := 339, attributes := #[] }, { accessFlags := 8, nameIndex := 338, descriptorIndex := 339, attributes := #[] }, { accessFlags := 4120, nameIndex := 245, descriptorIndex := 246, attributes := #[] }])
  fields := #[{ name := "E", type := .double, accessFlags := 25, slot := 0, constantValue := 0 }, { name := "PI", type := .double, accessFlags := 25, slot := 1, constantValue := 0 }, { name := "TAU", type := .double, accessFlags := 25, slot := 2, constantValue := 0 }, { name := "DEGREES_TO_RADIANS", type := .double, accessFlags := 26, slot := 3, constantValue := 0 }, { name := "RADIANS_TO_DEGREES", type := .double, accessFlags := 26, slot := 4, constantValue := 0 }, { name := "negativeZeroFloatBits", type := .long, accessFlags := 26, slot := 5, constantValue := 0 }, { name := "negativeZeroDoubleBits", type := .long, accessFlags := 26, slot := 6, constantValue := 0 }, { name := "twoToTheDoubleScaleUp", type := .double, accessFlags := 8, slot := 7, constantValue := 0 }, { name := "twoToTheDoubleScaleDown", type := .double, accessFlags := 8, slot := 8, constantValue := 0 }, { name := "$assertionsDisabled", type := .boolean, accessFlags := 4120, slot := 9, constantValue := 0 }]
  methods := #[k3m0, k3m1]
  instanceTypes := #[]
  staticTypes := #[.double, .double, .double, .double, .double, .long, .long, .double, .double, .boolean]
  resolved := Array.replicate 460 none
  statics := none }

def pool4 : Array CpInfo := pool [(1, .methodref 2 3), (0, .class_ 4), (0, .nameAndType 5 6), (0, u "java/lang/Object"), (0, u "<init>"), (0, u "()V"), (0, .class_ 8), (0, u "java/lang/Record")] 13

def k4c0 : Code := { maxStack := 1, maxLocals := 1, code := jdk_30_method_1_code, exceptionTable := #[], attributes := #[] }
def k4m0 : Method := { name := "<init>", desc := "()V", sig := { parameters := [], returnType := none }, accessFlags := 4, code := some k4c0 }
/-- java/lang/Record -/
def k4 : Class := { plain "java/lang/Record" (some 0) with
  accessFlags := 1057
  interfaces := #[]
  cf := some (fileOf pool4 7 #[] #[{ accessFlags := 4, nameIndex := 5, descriptorIndex := 6, attributes := #[] }] 1057 2 #[] #[])
  fields := #[]
  methods := #[k4m0]
  instanceTypes := #[]
  staticTypes := #[]
  resolved := Array.replicate 22 none
  statics := none }

def pool5 : Array CpInfo := pool [(1, .methodref 2 3), (0, .class_ 4), (0, .nameAndType 5 6), (0, u "java/lang/Record"), (0, u "<init>"), (0, u "()V"), (0, .fieldref 8 9), (0, .class_ 10), (0, .nameAndType 11 12), (0, u "com/example/vestry/vestry/rules/Allocated"), (0, u "compensation"), (0, u "J"), (0, .fieldref 8 14), (0, .nameAndType 15 12), (0, u "cappedCompensation"), (0, .fieldref 8 17), (0, .nameAndType 18 12), (0, u "deferrals"), (0, .fieldref 8 20), (0, .nameAndType 21 12), (0, u "catchUp"), (0, .fieldref 8 23), (0, .nameAndType 24 12), (0, u "excessDeferrals"), (0, .fieldref 8 26), (0, .nameAndType 27 12), (0, u "match"), (0, .fieldref 8 29), (0, .nameAndType 30 12), (0, u "profitSharing"), (12, u "(JJJJJJJ)V"), (6, u "()J")] 26

def k5c0 : Code := { maxStack := 3, maxLocals := 15, code := prog_92_method_1_code, exceptionTable := #[], attributes := #[] }
def k5m0 : Method := { name := "<init>", desc := "(JJJJJJJ)V", sig := { parameters := [.long, .long, .long, .long, .long, .long, .long], returnType := none }, accessFlags := 1, code := some k5c0 }
def k5c1 : Code := { maxStack := 2, maxLocals := 1, code := prog_92_method_5_code, exceptionTable := #[], attributes := #[] }
def k5m1 : Method := { name := "compensation", desc := "()J", sig := { parameters := [], returnType := some .long }, accessFlags := 1, code := some k5c1 }
def k5c2 : Code := { maxStack := 2, maxLocals := 1, code := prog_92_method_6_code, exceptionTable := #[], attributes := #[] }
def k5m2 : Method := { name := "cappedCompensation", desc := "()J", sig := { parameters := [], returnType := some .long }, accessFlags := 1, code := some k5c2 }
def k5c3 : Code := { maxStack := 2, maxLocals := 1, code := prog_92_method_7_code, exceptionTable := #[], attributes := #[] }
def k5m3 : Method := { name := "deferrals", desc := "()J", sig := { parameters := [], returnType := some .long }, accessFlags := 1, code := some k5c3 }
def k5c4 : Code := { maxStack := 2, maxLocals := 1, code := prog_92_method_8_code, exceptionTable := #[], attributes := #[] }
def k5m4 : Method := { name := "catchUp", desc := "()J", sig := { parameters := [], returnType := some .long }, accessFlags := 1, code := some k5c4 }
def k5c5 : Code := { maxStack := 2, maxLocals := 1, code := prog_92_method_9_code, exceptionTable := #[], attributes := #[] }
def k5m5 : Method := { name := "excessDeferrals", desc := "()J", sig := { parameters := [], returnType := some .long }, accessFlags := 1, code := some k5c5 }
def k5c6 : Code := { maxStack := 2, maxLocals := 1, code := prog_92_method_10_code, exceptionTable := #[], attributes := #[] }
def k5m6 : Method := { name := "match", desc := "()J", sig := { parameters := [], returnType := some .long }, accessFlags := 1, code := some k5c6 }
def k5c7 : Code := { maxStack := 2, maxLocals := 1, code := prog_92_method_11_code, exceptionTable := #[], attributes := #[] }
def k5m7 : Method := { name := "profitSharing", desc := "()J", sig := { parameters := [], returnType := some .long }, accessFlags := 1, code := some k5c7 }
/-- com/example/vestry/vestry/rules/Allocated -/
def k5 : Class := { plain "com/example/vestry/vestry/rules/Allocated" (some 4) with
  accessFlags := 49
  interfaces := #[]
  cf := some (fileOf pool5 8 #[] #[{ accessFlags := 1, nameIndex := 5, descriptorIndex := 43, attributes := #[] }, { accessFlags := 1, nameIndex := 11, descriptorIndex := 50, attributes := #[] }, { accessFlags := 1, nameIndex := 15, descriptorIndex := 50, attributes := #[] }, { accessFlags := 1, nameIndex := 18, descriptorIndex := 50, attributes := #[] }, { accessFlags := 1, nameIndex := 21, descriptorIndex := 50, attributes := #[] }, { accessFlags := 1, nameIndex := 24, descriptorIndex := 50, attributes := #[] }, { accessFlags := 1, nameIndex := 27, descriptorIndex := 50, attributes := #[] }, { accessFlags := 1, nameIndex := 30, descriptorIndex := 50, attributes := #[] }] 49 2 #[] #[{ accessFlags := 18, nameIndex := 11, descriptorIndex := 12, attributes := #[] }, { accessFlags := 18, nameIndex := 15, descriptorIndex := 12, attributes := #[] }, { accessFlags := 18, nameIndex := 18, descriptorIndex := 12, attributes := #[] }, { accessFlags := 18, nameIndex := 21, descriptorIndex := 12, attributes := #[] }, { accessFlags := 18, nameIndex := 24, descriptorIndex := 12, attributes := #[] }, { accessFlags := 18, nameIndex := 27, descriptorIndex := 12, attributes := #[] }, { accessFlags := 18, nameIndex := 30, descriptorIndex := 12, attributes := #[] }])
  fields := #[{ name := "compensation", type := .long, accessFlags := 18, slot := 0, constantValue := 0 }, { name := "cappedCompensation", type := .long, accessFlags := 18, slot := 1, constantValue := 0 }, { name := "deferrals", type := .long, accessFlags := 18, slot := 2, constantValue := 0 }, { name := "catchUp", type := .long, accessFlags := 18, slot := 3, constantValue := 0 }, { name := "excessDeferrals", type := .long, accessFlags := 18, slot := 4, constantValue := 0 }, { name := "match", type := .long, accessFlags := 18, slot := 5, constantValue := 0 }, { name := "profitSharing", type := .long, accessFlags := 18, slot := 6, constantValue := 0 }]
  methods := #[k5m0, k5m1, k5m2, k5m3, k5m4, k5m5, k5m6, k5m7]
  instanceTypes := #[.long, .long, .long, .long, .long, .long, .long]
  staticTypes := #[]
  resolved := Array.replicate 77 none
  statics := none }

def pool6 : Array CpInfo := pool [(1, u "java/lang/Cloneable"), (0, .class_ 1), (0, u "java/lang/Object"), (0, .class_ 3)] 3

/-- java/lang/Cloneable -/
def k6 : Class := { plain "java/lang/Cloneable" (some 0) with
  accessFlags := 1537
  interfaces := #[]
  cf := some (fileOf pool6 2 #[] #[] 1537 4 #[] #[])
  fields := #[]
  methods := #[]
  instanceTypes := #[]
  staticTypes := #[]
  resolved := Array.replicate 8 none
  statics := none }

def pool7 : Array CpInfo := pool [(1, u "java/io/Serializable"), (0, .class_ 1), (0, u "java/lang/Object"), (0, .class_ 3)] 3

/-- java/io/Serializable -/
def k7 : Class := { plain "java/io/Serializable" (some 0) with
  accessFlags := 1537
  interfaces := #[]
  cf := some (fileOf pool7 2 #[] #[] 1537 4 #[] #[])
  fields := #[]
  methods := #[]
  instanceTypes := #[]
  staticTypes := #[]
  resolved := Array.replicate 8 none
  statics := none }

/-- the primitive byte -/
def k8 : Class := { plain "byte" none with kind := .primitive 'B', accessFlags := 0x411 }
/-- [B -/
def k9 : Class := { plain "[B" (some 0) with kind := .array 8 .byte, interfaces := #[6, 7], accessFlags := 1041 }

/-- the primitive int -/
def k10 : Class := { plain "int" none with kind := .primitive 'I', accessFlags := 0x411 }
/-- [I -/
def k11 : Class := { plain "[I" (some 0) with kind := .array 10 .int, interfaces := #[6, 7], accessFlags := 1041 }

/-- the primitive long -/
def k12 : Class := { plain "long" none with kind := .primitive 'J', accessFlags := 0x411 }
/-- [J -/
def k13 : Class := { plain "[J" (some 0) with kind := .array 12 .long, interfaces := #[6, 7], accessFlags := 1041 }

def heap : Heap := #[]
def classes : Array Class := #[k0, k1, k2, k3, k4, k5, k6, k7, k8, k9, k10, k11, k12, k13]
def interned : List (Array UInt16 × Addr) := []
def slotsUsed : Nat := 0
def theMethod : MethodId := ⟨1, 2⟩
def args0 : Array Value := #[.int 5, .int 6, .long 7, .long 8, .long 9]
def aboutOver (below : List Frame) : State where
  vm := { classes := classes, interned := interned.toArray }
  heap := heap
  slotsUsed := slotsUsed
  threads := #[{ frames := .invoking theMethod args0 :: below }]
def below0 : List Frame := [.native { method := ⟨0, 0⟩, args := #[] }]
def about1 : State := aboutOver below0
def p0 : Program := .bare "" "" ""
def e0 : Env := launch0.env 0 0 0
theorem w_frames : about1.frames = Frame.invoking theMethod args0 :: below0 := rfl
set_option maxRecDepth 65536 in
theorem w_args : argsFit about1.vm theMethod args0 = true := by decide +kernel
set_option maxRecDepth 65536 in
theorem w_heap : heapFits about1 = true := by decide +kernel
set_option maxRecDepth 65536 in
theorem w_runnable : about1.curStatus? = some .runnable := by decide +kernel
set_option maxRecDepth 65536 in
theorem w_alone : about1.alone = true := by decide +kernel
set_option maxRecDepth 65536 in
theorem w_named : about1.methodNamed? x = some theMethod := by decide +kernel
set_option maxRecDepth 65536 in
theorem w_hears : about1.hears theMethod below0 = true := by decide +kernel
set_option maxRecDepth 65536 in
theorem w_ripe : about1.ripe theMethod args0 below0 = true := by decide +kernel
theorem w_running : about1.status = .running := rfl
set_option maxRecDepth 65536 in
theorem w_room : about1.hasRoom e0.platform room_1 = true :=
  launch0.hasRoom_least _ room_1 (by decide +kernel) (by decide +kernel) (by decide +kernel) (by decide +kernel) (by decide +kernel) (by decide +kernel)
theorem allAtoms_all (ts : List Jvm.Cond) (a : Array Jvm.Value) (st : Jvm.State) : (allAtoms ts).before a st = ts.all (fun c => c.before a st) := by
  induction ts with
  | nil => rfl
  | cons c t ih =>
    show (Jvm.Cond.and c (allAtoms t)).before a st = _
    rw [Jvm.Cond.before_and, ih, List.all_cons]
def words1 : List Jvm.Cond := Jvm.Cond.code x code maxLocals ret :: tables_1
/-- a 'code' word, met by the world's own term for the bytes: nothing is compared byte by byte -/
theorem code_word {y : MethodName} {bytes : ByteArray} {mx : Nat} {rt : Option FieldType} {a : Array Value} {s : State} {m : MethodId} {meth : Method} {c : Code} (h1 : s.methodNamed? y = some m) (h2 : s.vm.method? m = some meth) (h3 : meth.code = some c) (h4 : c.code = bytes)
    (h5 : (c.maxLocals == mx && c.exceptionTable.isEmpty && decide (c.maxStack ≤ mostOperands) && decide (meth.sig.returnType = rt) && !meth.locks && decide (parseMethodDescriptor y.desc = some meth.sig)) = true) : (Jvm.Cond.code y bytes mx rt).before a s = true := by
  simp only [Bool.and_eq_true, beq_iff_eq, Bool.not_eq_true', decide_eq_true_eq] at h5
  obtain ⟨⟨⟨⟨⟨g1, g2⟩, g3⟩, g4⟩, g5⟩, g6⟩ := h5
  simp [Cond.before, Cond.holds, Cond.value, h1, h2, h3, h4, g1, g2, g3, g4, g5, g6]
def isCode : Jvm.Cond → Bool
  | .code _ _ _ _ => true
  | _ => false
theorem all_split {L : List Jvm.Cond} {P : Jvm.Cond → Bool} (h1 : L.all (fun c => isCode c || P c) = true) (h2 : ∀ c ∈ L.filter isCode, P c = true) : L.all P = true := by
  refine List.all_eq_true.mpr fun c hc => ?_
  have h := List.all_eq_true.mp h1 c hc
  rcases Bool.eq_false_or_eq_true (isCode c) with hi | hi
  · exact h2 c (List.mem_filter.mpr ⟨hc, hi⟩)
  · simpa [hi] using h
set_option maxRecDepth 65536 in
theorem w_c0 : (Jvm.Cond.code x code maxLocals ret).before args0 about1 = true := code_word (m := ⟨1, 2⟩) (meth := k1m2) (c := k1c2) (by decide +kernel) rfl rfl rfl (by decide +kernel)
set_option maxRecDepth 65536 in
theorem w_c1 : (Jvm.Cond.code ({ cls := "com/example/vestry/vestry/rules/Allocations", name := "<init>", desc := "([II)V" } : Jvm.MethodName) prog_95_method_1_code (3 : Nat) (Option.none : Option Jvm.ClassFile.FieldType)).before args0 about1 = true := code_word (m := ⟨2, 0⟩) (meth := k2m0) (c := k2c0) (by decide +kernel) rfl rfl rfl (by decide +kernel)
set_option maxRecDepth 65536 in
theorem w_c2 : (Jvm.Cond.code ({ cls := "java/lang/Object", name := "<init>", desc := "()V" } : Jvm.MethodName) object_method_1_code (1 : Nat) (Option.none : Option Jvm.ClassFile.FieldType)).before args0 about1 = true := code_word (m := ⟨0, 0⟩) (meth := k0m0) (c := k0c0) (by decide +kernel) rfl rfl rfl (by decide +kernel)
set_option maxRecDepth 65536 in
theorem w_c3 : (Jvm.Cond.code ({ cls := "java/lang/Math", name := "multiplyExact", desc := "(II)I" } : Jvm.MethodName) jdk_29_method_28_code (4 : Nat) (Option.some Jvm.ClassFile.FieldType.int)).before args0 about1 = true := code_word (m := ⟨3, 1⟩) (meth := k3m1) (c := k3c1) (by decide +kernel) rfl rfl rfl (by decide +kernel)
set_option maxRecDepth 65536 in
theorem w_c4 : (Jvm.Cond.code ({ cls := "com/example/vestry/vestry/rules/Allocated", name := "<init>", desc := "(JJJJJJJ)V" } : Jvm.MethodName) prog_92_method_1_code (15 : Nat) (Option.none : Option Jvm.ClassFile.FieldType)).before args0 about1 = true := code_word (m := ⟨5, 0⟩) (meth := k5m0) (c := k5c0) (by decide +kernel) rfl rfl rfl (by decide +kernel)
set_option maxRecDepth 65536 in
theorem w_c5 : (Jvm.Cond.code ({ cls := "java/lang/Record", name := "<init>", desc := "()V" } : Jvm.MethodName) jdk_30_method_1_code (1 : Nat) (Option.none : Option Jvm.ClassFile.FieldType)).before args0 about1 = true := code_word (m := ⟨4, 0⟩) (meth := k4m0) (c := k4c0) (by decide +kernel) rfl rfl rfl (by decide +kernel)
set_option maxRecDepth 65536 in
theorem w_c6 : (Jvm.Cond.code ({ cls := "com/example/vestry/vestry/rules/Allocations", name := "set", desc := "(ILcom/example/vestry/vestry/rules/Allocated;)V" } : Jvm.MethodName) prog_95_method_4_code (4 : Nat) (Option.none : Option Jvm.ClassFile.FieldType)).before args0 about1 = true := code_word (m := ⟨2, 2⟩) (meth := k2m2) (c := k2c2) (by decide +kernel) rfl rfl rfl (by decide +kernel)
set_option maxRecDepth 65536 in
theorem w_c7 : (Jvm.Cond.code ({ cls := "com/example/vestry/vestry/rules/Allocated", name := "compensation", desc := "()J" } : Jvm.MethodName) prog_92_method_5_code (1 : Nat) (Option.some Jvm.ClassFile.FieldType.long)).before args0 about1 = true := code_word (m := ⟨5, 1⟩) (meth := k5m1) (c := k5c1) (by decide +kernel) rfl rfl rfl (by decide +kernel)
set_option maxRecDepth 65536 in
theorem w_c8 : (Jvm.Cond.code ({ cls := "com/example/vestry/vestry/rules/Allocated", name := "cappedCompensation", desc := "()J" } : Jvm.MethodName) prog_92_method_6_code (1 : Nat) (Option.some Jvm.ClassFile.FieldType.long)).before args0 about1 = true := code_word (m := ⟨5, 2⟩) (meth := k5m2) (c := k5c2) (by decide +kernel) rfl rfl rfl (by decide +kernel)
set_option maxRecDepth 65536 in
theorem w_c9 : (Jvm.Cond.code ({ cls := "com/example/vestry/vestry/rules/Allocated", name := "deferrals", desc := "()J" } : Jvm.MethodName) prog_92_method_7_code (1 : Nat) (Option.some Jvm.ClassFile.FieldType.long)).before args0 about1 = true := code_word (m := ⟨5, 3⟩) (meth := k5m3) (c := k5c3) (by decide +kernel) rfl rfl rfl (by decide +kernel)
set_option maxRecDepth 65536 in
theorem w_c10 : (Jvm.Cond.code ({ cls := "com/example/vestry/vestry/rules/Allocated", name := "catchUp", desc := "()J" } : Jvm.MethodName) prog_92_method_8_code (1 : Nat) (Option.some Jvm.ClassFile.FieldType.long)).before args0 about1 = true := code_word (m := ⟨5, 4⟩) (meth := k5m4) (c := k5c4) (by decide +kernel) rfl rfl rfl (by decide +kernel)
set_option maxRecDepth 65536 in
theorem w_c11 : (Jvm.Cond.code ({ cls := "com/example/vestry/vestry/rules/Allocated", name := "excessDeferrals", desc := "()J" } : Jvm.MethodName) prog_92_method_9_code (1 : Nat) (Option.some Jvm.ClassFile.FieldType.long)).before args0 about1 = true := code_word (m := ⟨5, 5⟩) (meth := k5m5) (c := k5c5) (by decide +kernel) rfl rfl rfl (by decide +kernel)
set_option maxRecDepth 65536 in
theorem w_c12 : (Jvm.Cond.code ({ cls := "com/example/vestry/vestry/rules/Allocated", name := "match", desc := "()J" } : Jvm.MethodName) prog_92_method_10_code (1 : Nat) (Option.some Jvm.ClassFile.FieldType.long)).before args0 about1 = true := code_word (m := ⟨5, 6⟩) (meth := k5m6) (c := k5c6) (by decide +kernel) rfl rfl rfl (by decide +kernel)
set_option maxRecDepth 65536 in
theorem w_c13 : (Jvm.Cond.code ({ cls := "com/example/vestry/vestry/rules/Allocations", name := "setProfitSharing", desc := "(IJ)V" } : Jvm.MethodName) prog_95_method_5_code (4 : Nat) (Option.none : Option Jvm.ClassFile.FieldType)).before args0 about1 = true := code_word (m := ⟨2, 3⟩) (meth := k2m3) (c := k2c3) (by decide +kernel) rfl rfl rfl (by decide +kernel)
set_option maxRecDepth 65536 in
theorem w_c14 : (Jvm.Cond.code ({ cls := "com/example/vestry/vestry/rules/Allocations", name := "addProfitSharingCent", desc := "(I)V" } : Jvm.MethodName) prog_95_method_6_code (2 : Nat) (Option.none : Option Jvm.ClassFile.FieldType)).before args0 about1 = true := code_word (m := ⟨2, 4⟩) (meth := k2m4) (c := k2c4) (by decide +kernel) rfl rfl rfl (by decide +kernel)
set_option maxRecDepth 65536 in
theorem w_c15 : (Jvm.Cond.code ({ cls := "com/example/vestry/vestry/rules/Allocations", name := "of", desc := "(I)Lcom/example/vestry/vestry/rules/Allocated;" } : Jvm.MethodName) prog_95_method_3_code (3 : Nat) (Option.some (Jvm.ClassFile.FieldType.object "com/example/vestry/vestry/rules/Allocated"))).before args0 about1 = true := code_word (m := ⟨2, 1⟩) (meth := k2m1) (c := k2c1) (by decide +kernel) rfl rfl rfl (by decide +kernel)
set_option maxRecDepth 65536 in
theorem w_c16 : (Jvm.Cond.code ({ cls := "com/example/vestry/vestry/rules/Allocated", name := "profitSharing", desc := "()J" } : Jvm.MethodName) prog_92_method_11_code (1 : Nat) (Option.some Jvm.ClassFile.FieldType.long)).before args0 about1 = true := code_word (m := ⟨5, 7⟩) (meth := k5m7) (c := k5c7) (by decide +kernel) rfl rfl rfl (by decide +kernel)
set_option maxRecDepth 65536 in
theorem w_c17 : (Jvm.Cond.code ({ cls := "com/example/vestry/vestry/rules/AllocationsAddProfitSharingCentPinLaw", name := "zeroSave", desc := "(Lcom/example/vestry/vestry/rules/Allocated;)Z" } : Jvm.MethodName) method_2_code (1 : Nat) (Option.some Jvm.ClassFile.FieldType.boolean)).before args0 about1 = true := code_word (m := ⟨1, 1⟩) (meth := k1m1) (c := k1c1) (by decide +kernel) rfl rfl rfl (by decide +kernel)
def codes1 : List Jvm.Cond := [Jvm.Cond.code x code maxLocals ret, Jvm.Cond.code ({ cls := "com/example/vestry/vestry/rules/Allocations", name := "<init>", desc := "([II)V" } : Jvm.MethodName) prog_95_method_1_code (3 : Nat) (Option.none : Option Jvm.ClassFile.FieldType), Jvm.Cond.code ({ cls := "java/lang/Object", name := "<init>", desc := "()V" } : Jvm.MethodName) object_method_1_code (1 : Nat) (Option.none : Option Jvm.ClassFile.FieldType), Jvm.Cond.code ({ cls := "java/lang/Math", name := "multiplyExact", desc := "(II)I" } : Jvm.MethodName) jdk_29_method_28_code (4 : Nat) (Option.some Jvm.ClassFile.FieldType.int), Jvm.Cond.code ({ cls := "com/example/vestry/vestry/rules/Allocated", name := "<init>", desc := "(JJJJJJJ)V" } : Jvm.MethodName) prog_92_method_1_code (15 : Nat) (Option.none : Option Jvm.ClassFile.FieldType), Jvm.Cond.code ({ cls := "java/lang/Record", name := "<init>", desc := "()V" } : Jvm.MethodName) jdk_30_method_1_code (1 : Nat) (Option.none : Option Jvm.ClassFile.FieldType), Jvm.Cond.code ({ cls := "com/example/vestry/vestry/rules/Allocations", name := "set", desc := "(ILcom/example/vestry/vestry/rules/Allocated;)V" } : Jvm.MethodName) prog_95_method_4_code (4 : Nat) (Option.none : Option Jvm.ClassFile.FieldType), Jvm.Cond.code ({ cls := "com/example/vestry/vestry/rules/Allocated", name := "compensation", desc := "()J" } : Jvm.MethodName) prog_92_method_5_code (1 : Nat) (Option.some Jvm.ClassFile.FieldType.long), Jvm.Cond.code ({ cls := "com/example/vestry/vestry/rules/Allocated", name := "cappedCompensation", desc := "()J" } : Jvm.MethodName) prog_92_method_6_code (1 : Nat) (Option.some Jvm.ClassFile.FieldType.long), Jvm.Cond.code ({ cls := "com/example/vestry/vestry/rules/Allocated", name := "deferrals", desc := "()J" } : Jvm.MethodName) prog_92_method_7_code (1 : Nat) (Option.some Jvm.ClassFile.FieldType.long), Jvm.Cond.code ({ cls := "com/example/vestry/vestry/rules/Allocated", name := "catchUp", desc := "()J" } : Jvm.MethodName) prog_92_method_8_code (1 : Nat) (Option.some Jvm.ClassFile.FieldType.long), Jvm.Cond.code ({ cls := "com/example/vestry/vestry/rules/Allocated", name := "excessDeferrals", desc := "()J" } : Jvm.MethodName) prog_92_method_9_code (1 : Nat) (Option.some Jvm.ClassFile.FieldType.long), Jvm.Cond.code ({ cls := "com/example/vestry/vestry/rules/Allocated", name := "match", desc := "()J" } : Jvm.MethodName) prog_92_method_10_code (1 : Nat) (Option.some Jvm.ClassFile.FieldType.long), Jvm.Cond.code ({ cls := "com/example/vestry/vestry/rules/Allocations", name := "setProfitSharing", desc := "(IJ)V" } : Jvm.MethodName) prog_95_method_5_code (4 : Nat) (Option.none : Option Jvm.ClassFile.FieldType), Jvm.Cond.code ({ cls := "com/example/vestry/vestry/rules/Allocations", name := "addProfitSharingCent", desc := "(I)V" } : Jvm.MethodName) prog_95_method_6_code (2 : Nat) (Option.none : Option Jvm.ClassFile.FieldType), Jvm.Cond.code ({ cls := "com/example/vestry/vestry/rules/Allocations", name := "of", desc := "(I)Lcom/example/vestry/vestry/rules/Allocated;" } : Jvm.MethodName) prog_95_method_3_code (3 : Nat) (Option.some (Jvm.ClassFile.FieldType.object "com/example/vestry/vestry/rules/Allocated")), Jvm.Cond.code ({ cls := "com/example/vestry/vestry/rules/Allocated", name := "profitSharing", desc := "()J" } : Jvm.MethodName) prog_92_method_11_code (1 : Nat) (Option.some Jvm.ClassFile.FieldType.long), Jvm.Cond.code ({ cls := "com/example/vestry/vestry/rules/AllocationsAddProfitSharingCentPinLaw", name := "zeroSave", desc := "(Lcom/example/vestry/vestry/rules/Allocated;)Z" } : Jvm.MethodName) method_2_code (1 : Nat) (Option.some Jvm.ClassFile.FieldType.boolean)]
set_option maxRecDepth 65536 in
theorem codes_eq : words1.filter isCode = codes1 := rfl
theorem w_codes : ∀ c ∈ words1.filter isCode, c.before args0 about1 = true := by
  rw [codes_eq]
  intro c hc
  simp only [codes1, List.mem_cons, List.not_mem_nil, or_false] at hc
  rcases hc with rfl | rfl | rfl | rfl | rfl | rfl | rfl | rfl | rfl | rfl | rfl | rfl | rfl | rfl | rfl | rfl | rfl | rfl
  · exact w_c0
  · exact w_c1
  · exact w_c2
  · exact w_c3
  · exact w_c4
  · exact w_c5
  · exact w_c6
  · exact w_c7
  · exact w_c8
  · exact w_c9
  · exact w_c10
  · exact w_c11
  · exact w_c12
  · exact w_c13
  · exact w_c14
  · exact w_c15
  · exact w_c16
  · exact w_c17
set_option maxRecDepth 65536 in
theorem w_t1 : (words1.take 24).all (fun c => isCode c || c.before args0 about1) = true := by decide +kernel
set_option maxRecDepth 65536 in
theorem w_t2 : ((words1.drop 24).take 24).all (fun c => isCode c || c.before args0 about1) = true := by decide +kernel
set_option maxRecDepth 65536 in
theorem w_t3 : (((words1.drop 24).drop 24).take 24).all (fun c => isCode c || c.before args0 about1) = true := by decide +kernel
set_option maxRecDepth 65536 in
theorem w_t4 : ((((words1.drop 24).drop 24).drop 24).take 24).all (fun c => isCode c || c.before args0 about1) = true := by decide +kernel
set_option maxRecDepth 65536 in
theorem w_t5 : ((((words1.drop 24).drop 24).drop 24).drop 24).all (fun c => isCode c || c.before args0 about1) = true := by decide +kernel
theorem w_tables : (allAtoms (Jvm.Cond.code x code maxLocals ret :: tables_1)).before args0 about1 = true := by
  rw [allAtoms_all]
  show words1.all (fun c => c.before args0 about1) = true
  refine all_split ?_ w_codes
  rw [← List.take_append_drop 24 words1, List.all_append, w_t1, ← List.take_append_drop 24 (words1.drop 24), List.all_append, w_t2, ← List.take_append_drop 24 ((words1.drop 24).drop 24), List.all_append, w_t3, ← List.take_append_drop 24 (((words1.drop 24).drop 24).drop 24), List.all_append, w_t4, w_t5]
  rfl
set_option maxRecDepth 65536 in
theorem w_case : (Jvm.Cond.and given_1 narrow_1).before args0 about1 = true := by decide +kernel
theorem w_applies : (headSpec (Jvm.Cond.code x code maxLocals ret :: tables_1) room_1).applies x e0.platform about1 = true :=
  (Spec.applies_iff w_frames).mpr ⟨w_running, w_runnable, w_alone, w_named, w_hears, w_ripe, w_room, w_tables⟩
theorem atStart : AtStart classFile x code maxLocals ret World_1 tables_1 room_1 Calls_1 rest_1 Pre_1 launch0 p0 e0 about1 theMethod args0 below0 :=
  ⟨lists_1, trivial, launch0.admits_env _ _ _, launch0.least_env, fairChoices_fair.cas, fairChoices_fair.clock, w_frames, w_args, w_heap, w_applies, trivial, trivial, w_case⟩
end start1
theorem witness_1 : WitnessClaimed_1 := ⟨start1.p0, start1.e0, start1.about1, start1.theMethod, start1.args0, start1.below0, start1.atStart⟩
end Jvm.Pilot.@@N@@
