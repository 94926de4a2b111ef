import JvmDerived
import JvmDerived.Pilot.@@N@@Statement
import JvmDerived.Pilot.@@N@@Code
set_option linter.unusedVariables false
set_option linter.unusedSimpArgs false
@@BLOCK:NumsL.lean.txt@@
@@BLOCK:Masks.lean.txt@@
namespace Jvm.RoadKit
open Sem ClassFile Op Lib Jvm.Stand Jvm.Free Jvm.LawKit
section New
variable {p : Program} {l : Launch} {e : Env} {R : Room} {s : State} {m : MethodId} {args : Array Value} {below : List Frame} {meth : Method} {c : Code} {T : State} {locs : List Loc} {cells slots : Nat}
theorem retI (X : Stand p l e R s m args below meth c T locs cells slots) (hx : p.tables.exec = Jvm.exec) {pc : Nat} {Ls : Array Slot} {z : Int32} {rest : List Value} (hret : meth.sig.returnType = some .int) (hd : decode c.code pc = .ok (.ireturn, 1)) {fs : List Frame}
    (hl : ∀ (f : JFrame) (acts : List Action), f.method = m → f.locked = none → f.entered = [] → (doReturn e (T.setTop f) acts (some (.int z))).1 = T.setFrames fs) : Steps p.tables e below (T.setTop (mkF m pc Ls (.int z :: rest))) (T.setFrames fs) := by
  have hm' : T.vm.method? m = some meth := X.method'
  have hn : narrow .int (.int z) = .int z := rfl
  show Steps p.tables e below (T.setTop { method := m, pc := pc, locals := Ls, stack := _ :: rest, locked := none }) _
  jvm_step X.here [X.here.top, hx, hd, hm', hret, hn]
  first | (intro acts; rw [hl _ acts rfl rfl rfl]) | rw [hl _ _ rfl rfl rfl]
  exact Steps.refl _
end New
end Jvm.RoadKit
namespace Jvm.Pilot.@@N@@
open Jvm Jvm.ClassFile Sem Op Lib Jvm.Free Jvm.Stand Jvm.LawKit Jvm.RoadKit Bundle Jvm.Pilot.@@N@@.Jvm.D
abbrev own_Go (p : Program) (e : Env) (below : List Frame) (s : State) (Q : Option Value → Heap → List Loc → Prop) (cs ss : Nat) (a : State) : Prop := ∃ (t : State) (o : Outcome), Steps p.tables e below a t ∧ t.status = .running ∧ Ended t below o ∧ ∃ (v : Option Value) (L : List Loc), o = .returned v ∧ Q v t.heap L ∧ FrameEnd s o t L cs ss
section Own
variable {p : Program} {l : Launch} {e : Env} {R : Room} {s : State} {m : MethodId} {args : Array Value} {below : List Frame} {meth : Method} {c : Code} {T : State} {locs : List Loc} {cells slots : Nat} {Q : Option Value → Heap → List Loc → Prop} {cs ss : Nat}
theorem own_go {a b : State} (h : ∀ t, Steps p.tables e below b t → Steps p.tables e below a t) (g : own_Go p e below s Q cs ss b) : own_Go p e below s Q cs ss a := by
  obtain ⟨t, o, h1, h2⟩ := g
  exact ⟨t, o, h t h1, h2⟩
theorem own_end (X : Stand p l e R s m args below meth c T locs cells slots) (hlk : meth.locks = false) {v : Option Value} (hv : meth.sig.returnType = none → v = none) {a : State}
    (hs : ∀ fs, (∀ (f : JFrame) (acts : List Action), f.method = m → f.locked = none → f.entered = [] → (doReturn e (T.setTop f) acts v).1 = T.setFrames fs) → Steps p.tables e below a (T.setFrames fs))
    {h : Heap} (eT : T.heap = h) (hq : Q v h locs) (h1 : cells ≤ cs) (h2 : slots ≤ ss) : own_Go p e below s Q cs ss a := by
  obtain ⟨fs, hr, hrun, hended, hW, hsame⟩ := X.leave hv hlk
  subst eT
  exact ⟨_, _, hs fs hr, hrun, hended, _, _, rfl, hq, ⟨_, rfl⟩, hW, hsame.mono h1 h2⟩
end Own
theorem own_hin {n : Nat} {cl : Cell} {j : Int32} (S : cl.slots.size = n) (h : ¬ j < 0 ∧ j.toNatClampNeg < n) : ¬ (j < 0 ∨ cl.slots.size ≤ j.toNatClampNeg) := by
  rw [S]; exact fun q => q.elim h.1 (fun u => absurd h.2 (Nat.not_lt.mpr u))
theorem own_has {cl : Cell} {xs : List Int32} {n : Nat} (H : Has cl (xs.map Value.int) (.int 0)) (S : cl.slots.size = n) : ∀ i, i < n → cl.slots[i]? = some (.int (xs.getD i 0)) := by
  intro i hi
  rw [H i (by rw [S]; exact hi)]
  simp only [List.getD_eq_getElem?_getD, List.getElem?_map]
  cases xs[i]? <;> rfl
theorem own_hasL {cl : Cell} {xs : List Int64} {n : Nat} (H : Has cl (xs.map Value.long) (.long 0)) (S : cl.slots.size = n) : ∀ i, i < n → cl.slots[i]? = some (.long (xs.getD i 0)) := by
  intro i hi
  rw [H i (by rw [S]; exact hi)]
  simp only [List.getD_eq_getElem?_getD, List.getElem?_map]
  cases xs[i]? <;> rfl
theorem d1_0 : decode prog_43_method_1_code 0 = .ok (.aload_n 0, 1) := by decide +kernel
theorem d1_1 : decode prog_43_method_1_code 1 = .ok (.invokespecial 1, 3) := by decide +kernel
theorem d1_4 : decode prog_43_method_1_code 4 = .ok (.aload_n 0, 1) := by decide +kernel
theorem d1_5 : decode prog_43_method_1_code 5 = .ok (.ldc2_w 7, 3) := by decide +kernel
theorem d1_8 : decode prog_43_method_1_code 8 = .ok (.putfield 9, 3) := by decide +kernel
theorem d1_11 : decode prog_43_method_1_code 11 = .ok (.return_, 1) := by decide +kernel
theorem pn_1 : plainName "com/example/cicada/cicada/core/RequestNumbers" = true := by first | (simp [plainName, overriddenIn]; done) | decide +kernel
theorem ef_1 (m : MethodId) (x0 : Addr) : entryFrame m #[(.ref x0)] 1 = mkF m 0 #[.val (.ref x0)] [] := by first | (simp [entryFrame, mkF, argsToLocals, Value.category]; done) | rfl
def Q1 (Z : State) (b1 : Addr) (h0 : Heap) (n0 : Nat) (v : Option Value) (h : Heap) (L : List Loc) : Prop := v = none ∧ Fr n0 L ∧ Keep h0 h [b1] ∧ Exa Z h b1 "com/example/cicada/cicada/core/RequestNumbers" ∧ Fld Z h b1 "com/example/cicada/cicada/core/RequestNumbers" "last" "J" (.long (-1 : Int64))
set_option maxRecDepth 65536 in
set_option maxHeartbeats 40000000 in
theorem rm1 (l : Launch) (Z : State) (a0 : Array Value) (hw : ∀ d ∈ tables_1, d.before a0 Z = true) (ws : List Jvm.Cond)  (b1 : Addr) (h0 : Heap) (n0 : Nat) (Z0 : n0 ≤ h0.size) (F_last : Fld Z h0 b1 "com/example/cicada/cicada/core/RequestNumbers" "last" "J" (.long (0 : Int64))) (E_b1 : Exa Z h0 b1 "com/example/cicada/cicada/core/RequestNumbers") (lo_b1 : n0 ≤ b1)  :
    MetFree l (⟨"com/example/cicada/cicada/core/RequestNumbers", "<init>", "()V"⟩ : MethodName) (head1 (Jvm.Cond.code (⟨"com/example/cicada/cicada/core/RequestNumbers", "<init>", "()V"⟩ : MethodName) prog_43_method_1_code 1 none :: ws) ({ frames := 1, cells := 0, slots := 0, locals := 12 } : Room)) (fun a U => a = #[(.ref b1)] ∧ Z.Warmed39 U.vm ∧ U.heap = h0) (fun _ _ _ _ _ => True) (fun _ U o U' => ∃ v L, o = .returned v ∧ Q1 Z b1 h0 n0 v U'.heap L ∧ FrameEnd U o U' L ({ frames := 1, cells := 0, slots := 0, locals := 12 } : Room).cells ({ frames := 1, cells := 0, slots := 0, locals := 12 } : Room).slots) := by
  refine MetFree.of_bodySF (plainFor_of_name pn_1) hisR ?_
  intro p e s m args below meth c s₁ Bd hml0 hP hK
  obtain ⟨rfl, hZ, hh⟩ := hP
  have hx := Bd.exec
  have hby := Bd.bytes
  have hml : c.maxLocals = 1 := hml0
  have hown : s.vm.findClass "com/example/cicada/cicada/core/RequestNumbers" = some m.cls := findClass_of_methodNamed Bd.named
  have hnm := (name_of_methodNamed Bd.named Bd.method).1
  have X0 : Stand p l e ({ frames := 1, cells := 0, slots := 0, locals := 12 } : Room) s m #[(.ref b1)] below meth c s₁ [] 0 0 := Stand.of_body Bd
  have e0 : s₁.heap = h0 := by rw [← hh, Bd.state]; rfl
  have N0 := Fr.nil n0
  show own_Go p e below s (Q1 Z b1 h0 n0) ({ frames := 1, cells := 0, slots := 0, locals := 12 } : Room).cells ({ frames := 1, cells := 0, slots := 0, locals := 12 } : Room).slots (s₁.setTop (entryFrame m #[(.ref b1)] 1))
  refine own_go (b := s₁.setTop (mkF m 0 #[.val (.ref b1)] [])) (fun t k => castTop (ef_1 m b1) k) ?_
  have K0 := Keep.refl h0 [b1]
  obtain ⟨T1, X1, e1, st1⟩ := initO X0 hx hZ hown (hw _ (List.mem_of_getElem? (i := 7) rfl)) (hw _ (List.mem_of_getElem? (i := 8) rfl)) (hw _ (List.mem_of_getElem? (i := 9) rfl)) e0 (g := (mkF m 1 #[.val (.ref b1)] [(.ref b1)])) rfl (by rw [hml]; rfl) rfl (hb hby d1_1) (by decide) (W := 0) (by show 2 * 0 + _ ≤ _; exact Nat.le_of_eq rfl) (by decide)
  obtain ⟨T2, h2, X2, e2, W2, st2⟩ := putF X1 hx hZ hown (host := "") (Or.inl (hw _ (List.mem_of_getElem? (i := 11) rfl))) Via.refl e1 F_last E_b1 (Or.inl (hw _ (List.mem_of_getElem? (i := 12) rfl))) (hw _ (List.mem_of_getElem? (i := 2) rfl)) (ty := .long) (by decide) rfl rfl (g := (mkF m 8 #[.val (.ref b1)] [(.long (-1 : Int64)), (.ref b1)])) rfl rfl (hb hby d1_8)
  have N2 := Fr.snoc X2 N0 lo_b1
  have K2 := K0.wr W2 (Or.inl (List.mem_of_getElem? (i := 0) rfl))
  have F3 : Fld Z h2 b1 "com/example/cicada/cicada/core/RequestNumbers" "last" "J" (.long (-1 : Int64)) := F_last.same W2
  have E4 := E_b1.wr W2
  have Z2 : n0 ≤ h2.size := by rw [W2.size]; exact Z0
  refine own_end X2 Bd.notSynchronized (v := none) (fun _ => rfl) (fun fs hr => ?_) e2 ?_ (by decide) (by decide)
  · show Steps p.tables e below (s₁.setTop (mkF m 0 #[.val (.ref b1)] [])) _
    refine XS.aloadN X0.here hx rfl (hb hby d1_0) rfl rfl ?_
    show Steps p.tables e below (s₁.setTop (mkF m 1 #[.val (.ref b1)] [(.ref b1)])) _
    refine st1 _ ?_
    show Steps p.tables e below (T1.setTop (mkF m 4 #[.val (.ref b1)] [])) _
    refine XS.aloadN X1.here hx rfl (hb hby d1_4) rfl rfl ?_
    show Steps p.tables e below (T1.setTop (mkF m 5 #[.val (.ref b1)] [(.ref b1)])) _
    refine X1.ldc2J hx hown (mvT hZ (hw _ (List.mem_of_getElem? (i := 10) rfl))) rfl (hb hby d1_5) ?_
    show Steps p.tables e below (T1.setTop (mkF m 8 #[.val (.ref b1)] [(.long (-1 : Int64)), (.ref b1)])) _
    refine st2 _ ?_
    show Steps p.tables e below (T2.setTop (mkF m 11 #[.val (.ref b1)] [])) _
    exact X2.returnOut hx Bd.returns (hb hby d1_11) hr
  · exact ⟨rfl, N2, K2, E4, F3⟩
theorem d2_0 : decode prog_43_method_2_code 0 = .ok (.lload_n 1, 1) := by decide +kernel
theorem d2_1 : decode prog_43_method_2_code 1 = .ok (.aload_n 0, 1) := by decide +kernel
theorem d2_2 : decode prog_43_method_2_code 2 = .ok (.getfield 9, 3) := by decide +kernel
theorem d2_5 : decode prog_43_method_2_code 5 = .ok (.lcmp, 1) := by decide +kernel
theorem d2_6 : decode prog_43_method_2_code 6 = .ok (.ifCond .gt 21, 3) := by decide +kernel
theorem d2_9 : decode prog_43_method_2_code 9 = .ok (.new 15, 3) := by decide +kernel
theorem d2_12 : decode prog_43_method_2_code 12 = .ok (.dup, 1) := by decide +kernel
theorem d2_13 : decode prog_43_method_2_code 13 = .ok (.lload_n 1, 1) := by decide +kernel
theorem d2_14 : decode prog_43_method_2_code 14 = .ok (.aload_n 0, 1) := by decide +kernel
theorem d2_15 : decode prog_43_method_2_code 15 = .ok (.getfield 9, 3) := by decide +kernel
theorem d2_18 : decode prog_43_method_2_code 18 = .ok (.invokedynamic 17, 5) := by decide +kernel
theorem d2_23 : decode prog_43_method_2_code 23 = .ok (.invokespecial 21, 3) := by decide +kernel
theorem d2_26 : decode prog_43_method_2_code 26 = .ok (.athrow, 1) := by decide +kernel
theorem d2_27 : decode prog_43_method_2_code 27 = .ok (.aload_n 0, 1) := by decide +kernel
theorem d2_28 : decode prog_43_method_2_code 28 = .ok (.lload_n 1, 1) := by decide +kernel
theorem d2_29 : decode prog_43_method_2_code 29 = .ok (.putfield 9, 3) := by decide +kernel
theorem d2_32 : decode prog_43_method_2_code 32 = .ok (.return_, 1) := by decide +kernel
theorem pn_2 : plainName "com/example/cicada/cicada/core/RequestNumbers" = true := by first | (simp [plainName, overriddenIn]; done) | decide +kernel
theorem ef_2 (m : MethodId) (x0 : Addr) (x1 : Int64) : entryFrame m #[(.ref x0), (.long x1)] 3 = mkF m 0 #[.val (.ref x0), .val (.long x1), .second] [] := by first | (simp [entryFrame, mkF, argsToLocals, Value.category]; done) | rfl
def Q2 (Z : State) (b1 : Addr) (y1 : Int64) (y2 : Int64) (h0 : Heap) (n0 : Nat) (v : Option Value) (h : Heap) (L : List Loc) : Prop := v = none ∧ Fr n0 L ∧ Keep h0 h [b1] ∧ Exa Z h b1 "com/example/cicada/cicada/core/RequestNumbers" ∧ Fld Z h b1 "com/example/cicada/cicada/core/RequestNumbers" "last" "J" (.long y2)
set_option maxRecDepth 65536 in
set_option maxHeartbeats 40000000 in
theorem rm2 (l : Launch) (Z : State) (a0 : Array Value) (hw : ∀ d ∈ tables_1, d.before a0 Z = true) (ws : List Jvm.Cond)  (b1 : Addr) (y1 : Int64) (y2 : Int64) (h0 : Heap) (n0 : Nat) (Z0 : n0 ≤ h0.size) (F_last : Fld Z h0 b1 "com/example/cicada/cicada/core/RequestNumbers" "last" "J" (.long y1)) (E_b1 : Exa Z h0 b1 "com/example/cicada/cicada/core/RequestNumbers") (lo_b1 : n0 ≤ b1) (hgt : y1 < y2) :
    MetFree l (⟨"com/example/cicada/cicada/core/RequestNumbers", "take", "(J)V"⟩ : MethodName) (head1 (Jvm.Cond.code (⟨"com/example/cicada/cicada/core/RequestNumbers", "take", "(J)V"⟩ : MethodName) prog_43_method_2_code 3 none :: ws) ({ frames := 0, cells := 0, slots := 0, locals := 0 } : Room)) (fun a U => a = #[(.ref b1), (.long y2)] ∧ Z.Warmed39 U.vm ∧ U.heap = h0) (fun _ _ _ _ _ => True) (fun _ U o U' => ∃ v L, o = .returned v ∧ Q2 Z b1 y1 y2 h0 n0 v U'.heap L ∧ FrameEnd U o U' L ({ frames := 0, cells := 0, slots := 0, locals := 0 } : Room).cells ({ frames := 0, cells := 0, slots := 0, locals := 0 } : Room).slots) := by
  refine MetFree.of_bodySF (plainFor_of_name pn_2) hisR ?_
  intro p e s m args below meth c s₁ Bd hml0 hP hK
  obtain ⟨rfl, hZ, hh⟩ := hP
  have hx := Bd.exec
  have hby := Bd.bytes
  have hml : c.maxLocals = 3 := hml0
  have hown : s.vm.findClass "com/example/cicada/cicada/core/RequestNumbers" = some m.cls := findClass_of_methodNamed Bd.named
  have hnm := (name_of_methodNamed Bd.named Bd.method).1
  have X0 : Stand p l e ({ frames := 0, cells := 0, slots := 0, locals := 0 } : Room) s m #[(.ref b1), (.long y2)] below meth c s₁ [] 0 0 := Stand.of_body Bd
  have e0 : s₁.heap = h0 := by rw [← hh, Bd.state]; rfl
  have N0 := Fr.nil n0
  show own_Go p e below s (Q2 Z b1 y1 y2 h0 n0) ({ frames := 0, cells := 0, slots := 0, locals := 0 } : Room).cells ({ frames := 0, cells := 0, slots := 0, locals := 0 } : Room).slots (s₁.setTop (entryFrame m #[(.ref b1), (.long y2)] 3))
  refine own_go (b := s₁.setTop (mkF m 0 #[.val (.ref b1), .val (.long y2), .second] [])) (fun t k => castTop (ef_2 m b1 y2) k) ?_
  have K0 := Keep.refl h0 [b1]
  obtain ⟨T1, X1, e1, st1⟩ := getF X0 hx hZ hown (host := "") (Or.inl (hw _ (List.mem_of_getElem? (i := 11) rfl))) Via.refl e0 F_last (g := (mkF m 2 #[.val (.ref b1), .val (.long y2), .second] [(.ref b1), (.long y2)])) rfl rfl (hb hby d2_2)
  have hc6_2 : y1 < y2 := hgt
  obtain ⟨T3, h3, X3, e3, W3, st3⟩ := putF X1 hx hZ hown (host := "") (Or.inl (hw _ (List.mem_of_getElem? (i := 11) rfl))) Via.refl e1 F_last E_b1 (Or.inl (hw _ (List.mem_of_getElem? (i := 12) rfl))) (hw _ (List.mem_of_getElem? (i := 2) rfl)) (ty := .long) (by decide) rfl rfl (g := (mkF m 29 #[.val (.ref b1), .val (.long y2), .second] [(.long y2), (.ref b1)])) rfl rfl (hb hby d2_29)
  have N3 := Fr.snoc X3 N0 lo_b1
  have K3 := K0.wr W3 (Or.inl (List.mem_of_getElem? (i := 0) rfl))
  have F4 : Fld Z h3 b1 "com/example/cicada/cicada/core/RequestNumbers" "last" "J" (.long y2) := F_last.same W3
  have E5 := E_b1.wr W3
  have Z3 : n0 ≤ h3.size := by rw [W3.size]; exact Z0
  refine own_end X3 Bd.notSynchronized (v := none) (fun _ => rfl) (fun fs hr => ?_) e3 ?_ (by decide) (by decide)
  · show Steps p.tables e below (s₁.setTop (mkF m 0 #[.val (.ref b1), .val (.long y2), .second] [])) _
    refine XS.lloadN X0.here hx rfl (hb hby d2_0) rfl ?_
    show Steps p.tables e below (s₁.setTop (mkF m 1 #[.val (.ref b1), .val (.long y2), .second] [(.long y2)])) _
    refine XS.aloadN X0.here hx rfl (hb hby d2_1) rfl rfl ?_
    show Steps p.tables e below (s₁.setTop (mkF m 2 #[.val (.ref b1), .val (.long y2), .second] [(.ref b1), (.long y2)])) _
    refine st1 _ ?_
    show Steps p.tables e below (T1.setTop (mkF m 5 #[.val (.ref b1), .val (.long y2), .second] [(.long y1), (.long y2)])) _
    refine XS.lcmp X1.here hx rfl (hb hby d2_5) rfl ?_
    show Steps p.tables e below (T1.setTop (mkF m 6 #[.val (.ref b1), .val (.long y2), .second] [(.int (lcmpW y2 y1))])) _
    refine XS.ifYes X1.here hx rfl (pc0 := 6) (pc' := 27) rfl (hb hby d2_6) rfl ((if0 _ _).trans (tlt ((lw_gt y2 y1).mpr hc6_2)).2.2.1) (by decide) (by decide) ?_
    show Steps p.tables e below (T1.setTop (mkF m 27 #[.val (.ref b1), .val (.long y2), .second] [])) _
    refine XS.aloadN X1.here hx rfl (hb hby d2_27) rfl rfl ?_
    show Steps p.tables e below (T1.setTop (mkF m 28 #[.val (.ref b1), .val (.long y2), .second] [(.ref b1)])) _
    refine XS.lloadN X1.here hx rfl (hb hby d2_28) rfl ?_
    show Steps p.tables e below (T1.setTop (mkF m 29 #[.val (.ref b1), .val (.long y2), .second] [(.long y2), (.ref b1)])) _
    refine st3 _ ?_
    show Steps p.tables e below (T3.setTop (mkF m 32 #[.val (.ref b1), .val (.long y2), .second] [])) _
    exact X3.returnOut hx Bd.returns (hb hby d2_32) hr
  · exact ⟨rfl, N3, K3, E5, F4⟩
theorem own_m (x : Int64) : 0 ≤ (x &&& (9223372036854775807 : Int64)).toInt := by
  rw [Jvm.Kit.i64_mask x 9223372036854775807 (k := 63) (by decide) (by decide)]; omega
theorem own_m32 (x : Int32) : 0 ≤ (x &&& (2147483647 : Int32)).toInt64.toInt := by
  rw [Int32.toInt_toInt64, Jvm.Kit.i32_mask x 2147483647 (k := 31) (by decide) (by decide)]; omega
theorem own_first {a : Int64} (h : 0 ≤ a.toInt) : (-1 : Int64) < a := by
  rw [Int64.lt_iff_toInt_lt]; show (-1 : Int) < _; omega
theorem own_gap {a : Int64} (h : 0 ≤ a.toInt) (hm : ¬ a = (9223372036854775807 : Int64)) : ((9223372036854775807 : Int64) - a).toInt = 9223372036854775807 - a.toInt ∧ 1 ≤ 9223372036854775807 - a.toInt := by
  have h2 := a.toInt_lt
  have e : (9223372036854775807 : Int64).toInt = 9223372036854775807 := rfl
  have h3 : a.toInt ≠ 9223372036854775807 := fun q => hm (Int64.toInt_inj.mp (by rw [q]; rfl))
  refine ⟨?_, by omega⟩
  rw [Jvm.Kit.i64_sub (by rw [e]; omega) (by rw [e]; omega), e]
theorem own_nz {a : Int64} (h : 0 ≤ a.toInt) (hm : ¬ a = (9223372036854775807 : Int64)) : (9223372036854775807 : Int64) - a ≠ 0 := by
  intro q
  obtain ⟨g1, g2⟩ := own_gap h hm
  rw [q] at g1
  have e : (0 : Int64).toInt = 0 := rfl
  omega
theorem own_next {a y : Int64} (h : 0 ≤ a.toInt) (hm : ¬ a = (9223372036854775807 : Int64)) (hy : 0 ≤ y.toInt) : a.toInt < ((a + (1 : Int64)) + (y - (y / ((9223372036854775807 : Int64) - a)) * ((9223372036854775807 : Int64) - a))).toInt := by
  obtain ⟨g1, g2⟩ := own_gap h hm
  have e1 : (1 : Int64).toInt = 1 := rfl
  have h2 := a.toInt_lt
  have r : (y - (y / ((9223372036854775807 : Int64) - a)) * ((9223372036854775807 : Int64) - a)).toInt = y.toInt % (9223372036854775807 - a.toInt) := by rw [Jvm.Kit.i64_rem_nonneg hy, g1]
  have r0 : 0 ≤ y.toInt % (9223372036854775807 - a.toInt) := Int.emod_nonneg _ (by omega)
  have r1 : y.toInt % (9223372036854775807 - a.toInt) < 9223372036854775807 - a.toInt := Int.emod_lt_of_pos _ (by omega)
  have s1 : (a + (1 : Int64)).toInt = a.toInt + 1 := by rw [Jvm.Kit.i64_add (by rw [e1]; omega) (by rw [e1]; omega), e1]
  rw [Jvm.Kit.i64_add (by rw [s1, r]; omega) (by rw [s1, r]; omega), s1, r]
  omega
theorem pd__28_29V : parseMethodDescriptor "()V" = some ⟨[], none⟩ := by decide +kernel
theorem pd__28J_29V : parseMethodDescriptor "(J)V" = some ⟨[.long], none⟩ := by decide +kernel
theorem pn_0 : plainName "com/example/cicada/cicada/core/RequestNumbersTakePinLaw" = true := by first | (simp [plainName, overriddenIn]; done) | decide +kernel
theorem ef_0 (m : MethodId) (x0 : Int64) (x1 : Int64) (x2 : Int32) : entryFrame m #[(.long x0), (.long x1), (.int x2)] maxLocals = mkF m 0 #[.val (.long x0), .second, .val (.long x1), .second, .val (.int x2), .unset, .unset, .unset, .unset, .unset, .unset, .unset, .unset, .unset] [] := by first | (simp [entryFrame, mkF, argsToLocals, Value.category, maxLocals]; done) | rfl
def Q0 (p1 : Int64) (p2 : Int64) (p3 : Int32) (h0 : Heap) (n0 : Nat) (v : Option Value) (h : Heap) (L : List Loc) : Prop := v = some (.int 1) ∧ Fr n0 L
set_option maxRecDepth 65536 in
set_option maxHeartbeats 40000000 in
theorem rm0 (l : Launch) (Z : State) (a0 : Array Value) (hw : ∀ d ∈ tables_1, d.before a0 Z = true) (ws : List Jvm.Cond) (p1 : Int64) (p2 : Int64) (p3 : Int32) (h0 : Heap) (n0 : Nat) (Z0 : n0 ≤ h0.size)  :
    MetFree l x (head1 (Jvm.Cond.code x code maxLocals ret :: ws) room_1) (fun a U => a = #[(.long p1), (.long p2), (.int p3)] ∧ Z.Warmed39 U.vm ∧ U.heap = h0) (fun _ _ _ _ _ => True) (fun _ U o U' => ∃ v L, o = .returned v ∧ Q0 p1 p2 p3 h0 n0 v U'.heap L ∧ FrameEnd U o U' L 16 128) := by
  refine MetFree.of_bodySF (plainFor_of_name pn_0) hisR ?_
  intro p e s m args below meth c s₁ Bd hml0 hP hK
  obtain ⟨rfl, hZ, hh⟩ := hP
  have hx := Bd.exec
  have hby := Bd.bytes
  have hml : c.maxLocals = 14 := hml0
  have hown : s.vm.findClass "com/example/cicada/cicada/core/RequestNumbersTakePinLaw" = some m.cls := findClass_of_methodNamed Bd.named
  have hnm := (name_of_methodNamed Bd.named Bd.method).1
  have X0 : Stand p l e room_1 s m #[(.long p1), (.long p2), (.int p3)] below meth c s₁ [] 0 0 := Stand.of_body Bd
  have e0 : s₁.heap = h0 := by rw [← hh, Bd.state]; rfl
  have N0 := Fr.nil n0
  show own_Go p e below s (Q0 p1 p2 p3 h0 n0) 16 128 (s₁.setTop (entryFrame m #[(.long p1), (.long p2), (.int p3)] maxLocals))
  refine own_go (b := s₁.setTop (mkF m 0 #[.val (.long p1), .second, .val (.long p2), .second, .val (.int p3), .unset, .unset, .unset, .unset, .unset, .unset, .unset, .unset, .unset] [])) (fun t k => castTop (ef_0 m p1 p2 p3) k) ?_
  refine own_go (b := s₁.setTop (mkF m 11 #[.val (.long p1), .second, .val (.long p2), .second, .val (.int p3), .val (.long (9223372036854775807 : Int64)), .second, .val (.long (p1 &&& (9223372036854775807 : Int64))), .second, .unset, .unset, .unset, .unset, .unset] [])) (fun t k => ?_) ?_
  · show Steps p.tables e below (s₁.setTop (mkF m 0 #[.val (.long p1), .second, .val (.long p2), .second, .val (.int p3), .unset, .unset, .unset, .unset, .unset, .unset, .unset, .unset, .unset] [])) _
    refine X0.ldc2J hx hown (mvT hZ (hw _ (List.mem_of_getElem? (i := 0) rfl))) rfl (hb hby at_0) ?_
    show Steps p.tables e below (s₁.setTop (mkF m 3 #[.val (.long p1), .second, .val (.long p2), .second, .val (.int p3), .unset, .unset, .unset, .unset, .unset, .unset, .unset, .unset, .unset] [(.long (9223372036854775807 : Int64))])) _
    refine XS.lstore X0.here hx rfl (hb hby at_3) rfl (l' := #[.val (.long p1), .second, .val (.long p2), .second, .val (.int p3), .val (.long (9223372036854775807 : Int64)), .second, .unset, .unset, .unset, .unset, .unset, .unset, .unset]) rfl ?_
    show Steps p.tables e below (s₁.setTop (mkF m 5 #[.val (.long p1), .second, .val (.long p2), .second, .val (.int p3), .val (.long (9223372036854775807 : Int64)), .second, .unset, .unset, .unset, .unset, .unset, .unset, .unset] [])) _
    refine XS.lloadN X0.here hx rfl (hb hby at_5) rfl ?_
    show Steps p.tables e below (s₁.setTop (mkF m 6 #[.val (.long p1), .second, .val (.long p2), .second, .val (.int p3), .val (.long (9223372036854775807 : Int64)), .second, .unset, .unset, .unset, .unset, .unset, .unset, .unset] [(.long p1)])) _
    refine XS.lload X0.here hx rfl (hb hby at_6) rfl ?_
    show Steps p.tables e below (s₁.setTop (mkF m 8 #[.val (.long p1), .second, .val (.long p2), .second, .val (.int p3), .val (.long (9223372036854775807 : Int64)), .second, .unset, .unset, .unset, .unset, .unset, .unset, .unset] [(.long (9223372036854775807 : Int64)), (.long p1)])) _
    refine XS.land X0.here hx rfl (hb hby at_8) rfl ?_
    show Steps p.tables e below (s₁.setTop (mkF m 9 #[.val (.long p1), .second, .val (.long p2), .second, .val (.int p3), .val (.long (9223372036854775807 : Int64)), .second, .unset, .unset, .unset, .unset, .unset, .unset, .unset] [(.long (p1 &&& (9223372036854775807 : Int64)))])) _
    refine XS.lstore X0.here hx rfl (hb hby at_9) rfl (l' := #[.val (.long p1), .second, .val (.long p2), .second, .val (.int p3), .val (.long (9223372036854775807 : Int64)), .second, .val (.long (p1 &&& (9223372036854775807 : Int64))), .second, .unset, .unset, .unset, .unset, .unset]) rfl ?_
    show Steps p.tables e below (s₁.setTop (mkF m 11 #[.val (.long p1), .second, .val (.long p2), .second, .val (.int p3), .val (.long (9223372036854775807 : Int64)), .second, .val (.long (p1 &&& (9223372036854775807 : Int64))), .second, .unset, .unset, .unset, .unset, .unset] [])) _
    exact k
  obtain ⟨na, hna⟩ : ∃ z : Int64, z = (p1 &&& (9223372036854775807 : Int64)) := ⟨_, rfl⟩
  rw [← hna]
  have q1 : 0 ≤ na.toInt := by rw [hna]; exact own_m _
  obtain ⟨T1, h1, X1, e1, E1, A1, D1, -, st1⟩ := newO X0 hx hZ hown (hw _ (List.mem_of_getElem? (i := 1) rfl)) (hw _ (List.mem_of_getElem? (i := 2) rfl)) (hw _ (List.mem_of_getElem? (i := 3) rfl)) e0 (g := (mkF m 11 #[.val (.long p1), .second, .val (.long p2), .second, .val (.int p3), .val (.long (9223372036854775807 : Int64)), .second, .val (.long na), .second, .unset, .unset, .unset, .unset, .unset] [])) rfl (hb hby at_11) (by decide) (by decide)
  obtain ⟨a1, ga1⟩ : ∃ z, z = h0.size := ⟨_, rfl⟩
  rw [← ga1] at A1 D1 st1
  have lo1 : n0 ≤ a1 := Nat.le_trans Z0 (Nat.le_of_eq ga1.symm)
  have Z1 : n0 ≤ h1.size := Nat.le_trans Z0 E1.1
  have F2 : Fld Z h1 a1 "com/example/cicada/cicada/core/RequestNumbers" "last" "J" (.long (0 : Int64)) := D1 (Or.inl (hw _ (List.mem_of_getElem? (i := 12) rfl))) (ty := .long) (by decide)
  obtain ⟨_, _, ⟨T3, uL3, uk3, un3⟩, -, X3, ⟨Lc3, hQ3, ul3, uy3, uz3⟩, st3⟩ := X1.specialBack hx (y := (⟨"com/example/cicada/cicada/core/RequestNumbers", "<init>", "()V"⟩ : MethodName)) rfl hown (mvT hZ (hw _ (List.mem_of_getElem? (i := 4) rfl))) (mvT hZ (hw _ (List.mem_of_getElem? (i := 5) rfl))) (mvT hZ (hw _ (List.mem_of_getElem? (i := 6) rfl))) (by decide) (backOf (W := 1) (rm1 l Z a0 hw [] a1 h1 n0 Z1 F2 A1 lo1 ) hZ (hw _ (List.mem_of_getElem? (i := 6) rfl)) (hw _ (List.mem_of_getElem? (i := 3) rfl)) (by decide) (by decide)) (g := (mkF m 15 #[.val (.long p1), .second, .val (.long p2), .second, .val (.int p3), .val (.long (9223372036854775807 : Int64)), .second, .val (.long na), .second, .unset, .unset, .unset, .unset, .unset] [(.ref a1), (.ref a1)])) rfl (by rw [hml]; rfl) (Steps.refl _) (a := a1) (argsL := []) (rest := [(.ref a1)]) (lenOf pd__28_29V rfl) rfl (by show 2 * 0 + _ ≤ _; exact Nat.le_of_eq rfl) (hb hby at_15) (fun _ _ => ⟨rfl, e1, (by decide : 1 + 0 ≤ _), (by decide : 1 + 0 ≤ _)⟩)
  dsimp only [Pt.U, Pt.locs, Pt.cells, Pt.slots] at X3 ul3 uy3 uz3 st3 hQ3
  subst ul3 uy3 uz3
  obtain ⟨rfl, Nq3, K3, Ea3, Fa3_last⟩ := hQ3
  have Z3 : n0 ≤ T3.heap.size := Nat.le_trans Z1 K3.1
  have N3 := Fr.app N0 Nq3
  obtain ⟨cq4, kq4, qa4, qb4, qc4⟩ := isOf hZ rfl Ea3
  obtain ⟨_, _, ⟨T4, uL4, uk4, un4⟩, -, X4, ⟨Lc4, hQ4, ul4, uy4, uz4⟩, st4⟩ := X3.virtualBack hx (y := (⟨"com/example/cicada/cicada/core/RequestNumbers", "take", "(J)V"⟩ : MethodName)) (z := (⟨"com/example/cicada/cicada/core/RequestNumbers", "take", "(J)V"⟩ : MethodName)) hown (mvT hZ (hw _ (List.mem_of_getElem? (i := 13) rfl))) (mvT hZ (hw _ (List.mem_of_getElem? (i := 14) rfl))) (notFace_of_selects (args := #[]) (mvT hZ (hw _ (List.mem_of_getElem? (i := 16) rfl)))) (mvT hZ (hw _ (List.mem_of_getElem? (i := 16) rfl))) (mvT hZ (hw _ (List.mem_of_getElem? (i := 15) rfl))) (by decide) (backOf (W := 0) (rm2 l Z a0 hw [] a1 (-1 : Int64) na T3.heap n0 Z3 Fa3_last Ea3 lo1 (own_first q1)) hZ (hw _ (List.mem_of_getElem? (i := 17) rfl)) (hw _ (List.mem_of_getElem? (i := 3) rfl)) (by decide) (by decide)) qa4 qc4 (g := (mkF m 24 #[.val (.long p1), .second, .val (.long p2), .second, .val (.int p3), .val (.long (9223372036854775807 : Int64)), .second, .val (.long na), .second, .val (.ref a1), .unset, .unset, .unset, .unset] [(.long na), (.ref a1)])) rfl (by rw [hml]; rfl) (Steps.refl _) (argsL := [(.long na)]) (rest := []) (lenOf pd__28J_29V rfl) rfl (by show 2 * 0 + _ ≤ _; exact Nat.le_of_eq rfl) (hb hby at_24) (fun _ _ => ⟨rfl, rfl, (by decide : 1 + 0 ≤ _), (by decide : 1 + 0 ≤ _)⟩)
  dsimp only [Pt.U, Pt.locs, Pt.cells, Pt.slots] at X4 ul4 uy4 uz4 st4 hQ4
  subst ul4 uy4 uz4
  obtain ⟨rfl, Nq4, K4, Ea4, Fa4_last⟩ := hQ4
  have Z4 : n0 ≤ T4.heap.size := Nat.le_trans Z3 K4.1
  have N4 := Fr.app N3 Nq4
  refine own_go (b := T4.setTop (mkF m 32 #[.val (.long p1), .second, .val (.long p2), .second, .val (.int p3), .val (.long (9223372036854775807 : Int64)), .second, .val (.long na), .second, .val (.ref a1), .unset, .unset, .unset, .unset] [(.int (lcmpW na (9223372036854775807 : Int64)))])) (fun t k => ?_) ?_
  · show Steps p.tables e below (s₁.setTop (mkF m 11 #[.val (.long p1), .second, .val (.long p2), .second, .val (.int p3), .val (.long (9223372036854775807 : Int64)), .second, .val (.long na), .second, .unset, .unset, .unset, .unset, .unset] [])) _
    refine st1 _ ?_
    show Steps p.tables e below (T1.setTop (mkF m 14 #[.val (.long p1), .second, .val (.long p2), .second, .val (.int p3), .val (.long (9223372036854775807 : Int64)), .second, .val (.long na), .second, .unset, .unset, .unset, .unset, .unset] [(.ref a1)])) _
    refine XS.dup X1.here hx rfl (hb hby at_14) rfl rfl ?_
    show Steps p.tables e below (T1.setTop (mkF m 15 #[.val (.long p1), .second, .val (.long p2), .second, .val (.int p3), .val (.long (9223372036854775807 : Int64)), .second, .val (.long na), .second, .unset, .unset, .unset, .unset, .unset] [(.ref a1), (.ref a1)])) _
    refine st3.trans ?_
    show Steps p.tables e below (T3.setTop (mkF m 18 #[.val (.long p1), .second, .val (.long p2), .second, .val (.int p3), .val (.long (9223372036854775807 : Int64)), .second, .val (.long na), .second, .unset, .unset, .unset, .unset, .unset] [(.ref a1)])) _
    refine XS.astore X3.here hx rfl (hb hby at_18) rfl rfl (l' := #[.val (.long p1), .second, .val (.long p2), .second, .val (.int p3), .val (.long (9223372036854775807 : Int64)), .second, .val (.long na), .second, .val (.ref a1), .unset, .unset, .unset, .unset]) rfl ?_
    show Steps p.tables e below (T3.setTop (mkF m 20 #[.val (.long p1), .second, .val (.long p2), .second, .val (.int p3), .val (.long (9223372036854775807 : Int64)), .second, .val (.long na), .second, .val (.ref a1), .unset, .unset, .unset, .unset] [])) _
    refine XS.aload X3.here hx rfl (hb hby at_20) rfl rfl ?_
    show Steps p.tables e below (T3.setTop (mkF m 22 #[.val (.long p1), .second, .val (.long p2), .second, .val (.int p3), .val (.long (9223372036854775807 : Int64)), .second, .val (.long na), .second, .val (.ref a1), .unset, .unset, .unset, .unset] [(.ref a1)])) _
    refine XS.lload X3.here hx rfl (hb hby at_22) rfl ?_
    show Steps p.tables e below (T3.setTop (mkF m 24 #[.val (.long p1), .second, .val (.long p2), .second, .val (.int p3), .val (.long (9223372036854775807 : Int64)), .second, .val (.long na), .second, .val (.ref a1), .unset, .unset, .unset, .unset] [(.long na), (.ref a1)])) _
    refine st4.trans ?_
    show Steps p.tables e below (T4.setTop (mkF m 27 #[.val (.long p1), .second, .val (.long p2), .second, .val (.int p3), .val (.long (9223372036854775807 : Int64)), .second, .val (.long na), .second, .val (.ref a1), .unset, .unset, .unset, .unset] [])) _
    refine XS.lload X4.here hx rfl (hb hby at_27) rfl ?_
    show Steps p.tables e below (T4.setTop (mkF m 29 #[.val (.long p1), .second, .val (.long p2), .second, .val (.int p3), .val (.long (9223372036854775807 : Int64)), .second, .val (.long na), .second, .val (.ref a1), .unset, .unset, .unset, .unset] [(.long na)])) _
    refine XS.lload X4.here hx rfl (hb hby at_29) rfl ?_
    show Steps p.tables e below (T4.setTop (mkF m 31 #[.val (.long p1), .second, .val (.long p2), .second, .val (.int p3), .val (.long (9223372036854775807 : Int64)), .second, .val (.long na), .second, .val (.ref a1), .unset, .unset, .unset, .unset] [(.long (9223372036854775807 : Int64)), (.long na)])) _
    refine XS.lcmp X4.here hx rfl (hb hby at_31) rfl ?_
    show Steps p.tables e below (T4.setTop (mkF m 32 #[.val (.long p1), .second, .val (.long p2), .second, .val (.int p3), .val (.long (9223372036854775807 : Int64)), .second, .val (.long na), .second, .val (.ref a1), .unset, .unset, .unset, .unset] [(.int (lcmpW na (9223372036854775807 : Int64)))])) _
    exact k
  by_cases hc32 : na = (9223372036854775807 : Int64)
  · refine own_end X4 Bd.notSynchronized (v := some (.int (1 : Int32))) (fun h => by rw [Bd.returns] at h; cases h) (fun fs hr => ?_) rfl ?_ (by decide) (by decide)
    · show Steps p.tables e below (T4.setTop (mkF m 32 #[.val (.long p1), .second, .val (.long p2), .second, .val (.int p3), .val (.long (9223372036854775807 : Int64)), .second, .val (.long na), .second, .val (.ref a1), .unset, .unset, .unset, .unset] [(.int (lcmpW na (9223372036854775807 : Int64)))])) _
      refine XS.ifNo X4.here hx rfl (hb hby at_32) rfl ((if0 _ _).trans (teq ((lw_eq na (9223372036854775807 : Int64)).mpr hc32)).2) ?_
      show Steps p.tables e below (T4.setTop (mkF m 35 #[.val (.long p1), .second, .val (.long p2), .second, .val (.int p3), .val (.long (9223372036854775807 : Int64)), .second, .val (.long na), .second, .val (.ref a1), .unset, .unset, .unset, .unset] [])) _
      refine XS.iconst X4.here hx rfl (hb hby at_35) ?_
      show Steps p.tables e below (T4.setTop (mkF m 36 #[.val (.long p1), .second, .val (.long p2), .second, .val (.int p3), .val (.long (9223372036854775807 : Int64)), .second, .val (.long na), .second, .val (.ref a1), .unset, .unset, .unset, .unset] [(.int (1 : Int32))])) _
      exact retN X4 hx (t := .boolean) Bd.returns (by simp) (hb hby at_36) hr
    · exact ⟨rfl, N4⟩
  · refine own_go (b := T4.setTop (mkF m 54 #[.val (.long p1), .second, .val (.long p2), .second, .val (.int p3), .val (.long (9223372036854775807 : Int64)), .second, .val (.long na), .second, .val (.ref a1), .val (.long ((na + (1 : Int64)) + ((p2 &&& (9223372036854775807 : Int64)) - ((p2 &&& (9223372036854775807 : Int64)) / ((9223372036854775807 : Int64) - na)) * ((9223372036854775807 : Int64) - na)))), .second, .unset, .unset] [])) (fun t k => ?_) ?_
    · show Steps p.tables e below (T4.setTop (mkF m 32 #[.val (.long p1), .second, .val (.long p2), .second, .val (.int p3), .val (.long (9223372036854775807 : Int64)), .second, .val (.long na), .second, .val (.ref a1), .unset, .unset, .unset, .unset] [(.int (lcmpW na (9223372036854775807 : Int64)))])) _
      refine XS.ifYes X4.here hx rfl (pc0 := 32) (pc' := 37) rfl (hb hby at_32) rfl ((if0 _ _).trans (feq (fun q => hc32 ((lw_eq na (9223372036854775807 : Int64)).mp q))).2) (by decide) (by decide) ?_
      show Steps p.tables e below (T4.setTop (mkF m 37 #[.val (.long p1), .second, .val (.long p2), .second, .val (.int p3), .val (.long (9223372036854775807 : Int64)), .second, .val (.long na), .second, .val (.ref a1), .unset, .unset, .unset, .unset] [])) _
      refine XS.lload X4.here hx rfl (hb hby at_37) rfl ?_
      show Steps p.tables e below (T4.setTop (mkF m 39 #[.val (.long p1), .second, .val (.long p2), .second, .val (.int p3), .val (.long (9223372036854775807 : Int64)), .second, .val (.long na), .second, .val (.ref a1), .unset, .unset, .unset, .unset] [(.long na)])) _
      refine XS.lconst X4.here hx rfl (hb hby at_39) ?_
      show Steps p.tables e below (T4.setTop (mkF m 40 #[.val (.long p1), .second, .val (.long p2), .second, .val (.int p3), .val (.long (9223372036854775807 : Int64)), .second, .val (.long na), .second, .val (.ref a1), .unset, .unset, .unset, .unset] [(.long (1 : Int64)), (.long na)])) _
      refine XS.ladd X4.here hx rfl (hb hby at_40) rfl ?_
      show Steps p.tables e below (T4.setTop (mkF m 41 #[.val (.long p1), .second, .val (.long p2), .second, .val (.int p3), .val (.long (9223372036854775807 : Int64)), .second, .val (.long na), .second, .val (.ref a1), .unset, .unset, .unset, .unset] [(.long (na + (1 : Int64)))])) _
      refine XS.lloadN X4.here hx rfl (hb hby at_41) rfl ?_
      show Steps p.tables e below (T4.setTop (mkF m 42 #[.val (.long p1), .second, .val (.long p2), .second, .val (.int p3), .val (.long (9223372036854775807 : Int64)), .second, .val (.long na), .second, .val (.ref a1), .unset, .unset, .unset, .unset] [(.long p2), (.long (na + (1 : Int64)))])) _
      refine XS.lload X4.here hx rfl (hb hby at_42) rfl ?_
      show Steps p.tables e below (T4.setTop (mkF m 44 #[.val (.long p1), .second, .val (.long p2), .second, .val (.int p3), .val (.long (9223372036854775807 : Int64)), .second, .val (.long na), .second, .val (.ref a1), .unset, .unset, .unset, .unset] [(.long (9223372036854775807 : Int64)), (.long p2), (.long (na + (1 : Int64)))])) _
      refine XS.land X4.here hx rfl (hb hby at_44) rfl ?_
      show Steps p.tables e below (T4.setTop (mkF m 45 #[.val (.long p1), .second, .val (.long p2), .second, .val (.int p3), .val (.long (9223372036854775807 : Int64)), .second, .val (.long na), .second, .val (.ref a1), .unset, .unset, .unset, .unset] [(.long (p2 &&& (9223372036854775807 : Int64))), (.long (na + (1 : Int64)))])) _
      refine XS.lload X4.here hx rfl (hb hby at_45) rfl ?_
      show Steps p.tables e below (T4.setTop (mkF m 47 #[.val (.long p1), .second, .val (.long p2), .second, .val (.int p3), .val (.long (9223372036854775807 : Int64)), .second, .val (.long na), .second, .val (.ref a1), .unset, .unset, .unset, .unset] [(.long (9223372036854775807 : Int64)), (.long (p2 &&& (9223372036854775807 : Int64))), (.long (na + (1 : Int64)))])) _
      refine XS.lload X4.here hx rfl (hb hby at_47) rfl ?_
      show Steps p.tables e below (T4.setTop (mkF m 49 #[.val (.long p1), .second, .val (.long p2), .second, .val (.int p3), .val (.long (9223372036854775807 : Int64)), .second, .val (.long na), .second, .val (.ref a1), .unset, .unset, .unset, .unset] [(.long na), (.long (9223372036854775807 : Int64)), (.long (p2 &&& (9223372036854775807 : Int64))), (.long (na + (1 : Int64)))])) _
      refine XS.lsub X4.here hx rfl (hb hby at_49) rfl ?_
      show Steps p.tables e below (T4.setTop (mkF m 50 #[.val (.long p1), .second, .val (.long p2), .second, .val (.int p3), .val (.long (9223372036854775807 : Int64)), .second, .val (.long na), .second, .val (.ref a1), .unset, .unset, .unset, .unset] [(.long ((9223372036854775807 : Int64) - na)), (.long (p2 &&& (9223372036854775807 : Int64))), (.long (na + (1 : Int64)))])) _
      refine XS.lrem X4.here hx rfl (hb hby at_50) rfl (own_nz q1 hc32) ?_
      show Steps p.tables e below (T4.setTop (mkF m 51 #[.val (.long p1), .second, .val (.long p2), .second, .val (.int p3), .val (.long (9223372036854775807 : Int64)), .second, .val (.long na), .second, .val (.ref a1), .unset, .unset, .unset, .unset] [(.long ((p2 &&& (9223372036854775807 : Int64)) - ((p2 &&& (9223372036854775807 : Int64)) / ((9223372036854775807 : Int64) - na)) * ((9223372036854775807 : Int64) - na))), (.long (na + (1 : Int64)))])) _
      refine XS.ladd X4.here hx rfl (hb hby at_51) rfl ?_
      show Steps p.tables e below (T4.setTop (mkF m 52 #[.val (.long p1), .second, .val (.long p2), .second, .val (.int p3), .val (.long (9223372036854775807 : Int64)), .second, .val (.long na), .second, .val (.ref a1), .unset, .unset, .unset, .unset] [(.long ((na + (1 : Int64)) + ((p2 &&& (9223372036854775807 : Int64)) - ((p2 &&& (9223372036854775807 : Int64)) / ((9223372036854775807 : Int64) - na)) * ((9223372036854775807 : Int64) - na))))])) _
      refine XS.lstore X4.here hx rfl (hb hby at_52) rfl (l' := #[.val (.long p1), .second, .val (.long p2), .second, .val (.int p3), .val (.long (9223372036854775807 : Int64)), .second, .val (.long na), .second, .val (.ref a1), .val (.long ((na + (1 : Int64)) + ((p2 &&& (9223372036854775807 : Int64)) - ((p2 &&& (9223372036854775807 : Int64)) / ((9223372036854775807 : Int64) - na)) * ((9223372036854775807 : Int64) - na)))), .second, .unset, .unset]) rfl ?_
      show Steps p.tables e below (T4.setTop (mkF m 54 #[.val (.long p1), .second, .val (.long p2), .second, .val (.int p3), .val (.long (9223372036854775807 : Int64)), .second, .val (.long na), .second, .val (.ref a1), .val (.long ((na + (1 : Int64)) + ((p2 &&& (9223372036854775807 : Int64)) - ((p2 &&& (9223372036854775807 : Int64)) / ((9223372036854775807 : Int64) - na)) * ((9223372036854775807 : Int64) - na)))), .second, .unset, .unset] [])) _
      exact k
    obtain ⟨nb, hnb⟩ : ∃ z : Int64, z = ((na + (1 : Int64)) + ((p2 &&& (9223372036854775807 : Int64)) - ((p2 &&& (9223372036854775807 : Int64)) / ((9223372036854775807 : Int64) - na)) * ((9223372036854775807 : Int64) - na))) := ⟨_, rfl⟩
    rw [← hnb]
    have g2 : na.toInt < nb.toInt := by rw [hnb]; exact own_next q1 hc32 (own_m _)
    have l2 : na < nb := Int64.lt_iff_toInt_lt.mpr g2
    have q2 : 0 ≤ nb.toInt := by omega
    obtain ⟨cq5, kq5, qa5, qb5, qc5⟩ := isOf hZ rfl Ea4
    obtain ⟨_, _, ⟨T5, uL5, uk5, un5⟩, -, X5, ⟨Lc5, hQ5, ul5, uy5, uz5⟩, st5⟩ := X4.virtualBack hx (y := (⟨"com/example/cicada/cicada/core/RequestNumbers", "take", "(J)V"⟩ : MethodName)) (z := (⟨"com/example/cicada/cicada/core/RequestNumbers", "take", "(J)V"⟩ : MethodName)) hown (mvT hZ (hw _ (List.mem_of_getElem? (i := 13) rfl))) (mvT hZ (hw _ (List.mem_of_getElem? (i := 14) rfl))) (notFace_of_selects (args := #[]) (mvT hZ (hw _ (List.mem_of_getElem? (i := 16) rfl)))) (mvT hZ (hw _ (List.mem_of_getElem? (i := 16) rfl))) (mvT hZ (hw _ (List.mem_of_getElem? (i := 15) rfl))) (by decide) (backOf (W := 0) (rm2 l Z a0 hw [] a1 na nb T4.heap n0 Z4 Fa4_last Ea4 lo1 l2) hZ (hw _ (List.mem_of_getElem? (i := 17) rfl)) (hw _ (List.mem_of_getElem? (i := 3) rfl)) (by decide) (by decide)) qa5 qc5 (g := (mkF m 58 #[.val (.long p1), .second, .val (.long p2), .second, .val (.int p3), .val (.long (9223372036854775807 : Int64)), .second, .val (.long na), .second, .val (.ref a1), .val (.long nb), .second, .unset, .unset] [(.long nb), (.ref a1)])) rfl (by rw [hml]; rfl) (Steps.refl _) (argsL := [(.long nb)]) (rest := []) (lenOf pd__28J_29V rfl) rfl (by show 2 * 0 + _ ≤ _; exact Nat.le_of_eq rfl) (hb hby at_58) (fun _ _ => ⟨rfl, rfl, (by decide : 1 + 0 ≤ _), (by decide : 1 + 0 ≤ _)⟩)
    dsimp only [Pt.U, Pt.locs, Pt.cells, Pt.slots] at X5 ul5 uy5 uz5 st5 hQ5
    subst ul5 uy5 uz5
    obtain ⟨rfl, Nq5, K5, Ea5, Fa5_last⟩ := hQ5
    have Z5 : n0 ≤ T5.heap.size := Nat.le_trans Z4 K5.1
    have N5 := Fr.app N4 Nq5
    refine own_go (b := T5.setTop (mkF m 66 #[.val (.long p1), .second, .val (.long p2), .second, .val (.int p3), .val (.long (9223372036854775807 : Int64)), .second, .val (.long na), .second, .val (.ref a1), .val (.long nb), .second, .unset, .unset] [(.int (lcmpW nb (9223372036854775807 : Int64)))])) (fun t k => ?_) ?_
    · show Steps p.tables e below (T4.setTop (mkF m 54 #[.val (.long p1), .second, .val (.long p2), .second, .val (.int p3), .val (.long (9223372036854775807 : Int64)), .second, .val (.long na), .second, .val (.ref a1), .val (.long nb), .second, .unset, .unset] [])) _
      refine XS.aload X4.here hx rfl (hb hby at_54) rfl rfl ?_
      show Steps p.tables e below (T4.setTop (mkF m 56 #[.val (.long p1), .second, .val (.long p2), .second, .val (.int p3), .val (.long (9223372036854775807 : Int64)), .second, .val (.long na), .second, .val (.ref a1), .val (.long nb), .second, .unset, .unset] [(.ref a1)])) _
      refine XS.lload X4.here hx rfl (hb hby at_56) rfl ?_
      show Steps p.tables e below (T4.setTop (mkF m 58 #[.val (.long p1), .second, .val (.long p2), .second, .val (.int p3), .val (.long (9223372036854775807 : Int64)), .second, .val (.long na), .second, .val (.ref a1), .val (.long nb), .second, .unset, .unset] [(.long nb), (.ref a1)])) _
      refine st5.trans ?_
      show Steps p.tables e below (T5.setTop (mkF m 61 #[.val (.long p1), .second, .val (.long p2), .second, .val (.int p3), .val (.long (9223372036854775807 : Int64)), .second, .val (.long na), .second, .val (.ref a1), .val (.long nb), .second, .unset, .unset] [])) _
      refine XS.lload X5.here hx rfl (hb hby at_61) rfl ?_
      show Steps p.tables e below (T5.setTop (mkF m 63 #[.val (.long p1), .second, .val (.long p2), .second, .val (.int p3), .val (.long (9223372036854775807 : Int64)), .second, .val (.long na), .second, .val (.ref a1), .val (.long nb), .second, .unset, .unset] [(.long nb)])) _
      refine XS.lload X5.here hx rfl (hb hby at_63) rfl ?_
      show Steps p.tables e below (T5.setTop (mkF m 65 #[.val (.long p1), .second, .val (.long p2), .second, .val (.int p3), .val (.long (9223372036854775807 : Int64)), .second, .val (.long na), .second, .val (.ref a1), .val (.long nb), .second, .unset, .unset] [(.long (9223372036854775807 : Int64)), (.long nb)])) _
      refine XS.lcmp X5.here hx rfl (hb hby at_65) rfl ?_
      show Steps p.tables e below (T5.setTop (mkF m 66 #[.val (.long p1), .second, .val (.long p2), .second, .val (.int p3), .val (.long (9223372036854775807 : Int64)), .second, .val (.long na), .second, .val (.ref a1), .val (.long nb), .second, .unset, .unset] [(.int (lcmpW nb (9223372036854775807 : Int64)))])) _
      exact k
    by_cases hc66 : nb = (9223372036854775807 : Int64)
    · refine own_end X5 Bd.notSynchronized (v := some (.int (1 : Int32))) (fun h => by rw [Bd.returns] at h; cases h) (fun fs hr => ?_) rfl ?_ (by decide) (by decide)
      · show Steps p.tables e below (T5.setTop (mkF m 66 #[.val (.long p1), .second, .val (.long p2), .second, .val (.int p3), .val (.long (9223372036854775807 : Int64)), .second, .val (.long na), .second, .val (.ref a1), .val (.long nb), .second, .unset, .unset] [(.int (lcmpW nb (9223372036854775807 : Int64)))])) _
        refine XS.ifNo X5.here hx rfl (hb hby at_66) rfl ((if0 _ _).trans (teq ((lw_eq nb (9223372036854775807 : Int64)).mpr hc66)).2) ?_
        show Steps p.tables e below (T5.setTop (mkF m 69 #[.val (.long p1), .second, .val (.long p2), .second, .val (.int p3), .val (.long (9223372036854775807 : Int64)), .second, .val (.long na), .second, .val (.ref a1), .val (.long nb), .second, .unset, .unset] [])) _
        refine XS.iconst X5.here hx rfl (hb hby at_69) ?_
        show Steps p.tables e below (T5.setTop (mkF m 70 #[.val (.long p1), .second, .val (.long p2), .second, .val (.int p3), .val (.long (9223372036854775807 : Int64)), .second, .val (.long na), .second, .val (.ref a1), .val (.long nb), .second, .unset, .unset] [(.int (1 : Int32))])) _
        exact retN X5 hx (t := .boolean) Bd.returns (by simp) (hb hby at_70) hr
      · exact ⟨rfl, N5⟩
    · refine own_go (b := T5.setTop (mkF m 90 #[.val (.long p1), .second, .val (.long p2), .second, .val (.int p3), .val (.long (9223372036854775807 : Int64)), .second, .val (.long na), .second, .val (.ref a1), .val (.long nb), .second, .val (.long ((nb + (1 : Int64)) + (((p3 &&& (2147483647 : Int32)).toInt64) - (((p3 &&& (2147483647 : Int32)).toInt64) / ((9223372036854775807 : Int64) - nb)) * ((9223372036854775807 : Int64) - nb)))), .second] [])) (fun t k => ?_) ?_
      · show Steps p.tables e below (T5.setTop (mkF m 66 #[.val (.long p1), .second, .val (.long p2), .second, .val (.int p3), .val (.long (9223372036854775807 : Int64)), .second, .val (.long na), .second, .val (.ref a1), .val (.long nb), .second, .unset, .unset] [(.int (lcmpW nb (9223372036854775807 : Int64)))])) _
        refine XS.ifYes X5.here hx rfl (pc0 := 66) (pc' := 71) rfl (hb hby at_66) rfl ((if0 _ _).trans (feq (fun q => hc66 ((lw_eq nb (9223372036854775807 : Int64)).mp q))).2) (by decide) (by decide) ?_
        show Steps p.tables e below (T5.setTop (mkF m 71 #[.val (.long p1), .second, .val (.long p2), .second, .val (.int p3), .val (.long (9223372036854775807 : Int64)), .second, .val (.long na), .second, .val (.ref a1), .val (.long nb), .second, .unset, .unset] [])) _
        refine XS.lload X5.here hx rfl (hb hby at_71) rfl ?_
        show Steps p.tables e below (T5.setTop (mkF m 73 #[.val (.long p1), .second, .val (.long p2), .second, .val (.int p3), .val (.long (9223372036854775807 : Int64)), .second, .val (.long na), .second, .val (.ref a1), .val (.long nb), .second, .unset, .unset] [(.long nb)])) _
        refine XS.lconst X5.here hx rfl (hb hby at_73) ?_
        show Steps p.tables e below (T5.setTop (mkF m 74 #[.val (.long p1), .second, .val (.long p2), .second, .val (.int p3), .val (.long (9223372036854775807 : Int64)), .second, .val (.long na), .second, .val (.ref a1), .val (.long nb), .second, .unset, .unset] [(.long (1 : Int64)), (.long nb)])) _
        refine XS.ladd X5.here hx rfl (hb hby at_74) rfl ?_
        show Steps p.tables e below (T5.setTop (mkF m 75 #[.val (.long p1), .second, .val (.long p2), .second, .val (.int p3), .val (.long (9223372036854775807 : Int64)), .second, .val (.long na), .second, .val (.ref a1), .val (.long nb), .second, .unset, .unset] [(.long (nb + (1 : Int64)))])) _
        refine XS.iload X5.here hx rfl (hb hby at_75) rfl ?_
        show Steps p.tables e below (T5.setTop (mkF m 77 #[.val (.long p1), .second, .val (.long p2), .second, .val (.int p3), .val (.long (9223372036854775807 : Int64)), .second, .val (.long na), .second, .val (.ref a1), .val (.long nb), .second, .unset, .unset] [(.int p3), (.long (nb + (1 : Int64)))])) _
        refine X5.ldcI hx hown (mvT hZ (hw _ (List.mem_of_getElem? (i := 18) rfl))) rfl (hb hby at_77) ?_
        show Steps p.tables e below (T5.setTop (mkF m 79 #[.val (.long p1), .second, .val (.long p2), .second, .val (.int p3), .val (.long (9223372036854775807 : Int64)), .second, .val (.long na), .second, .val (.ref a1), .val (.long nb), .second, .unset, .unset] [(.int (2147483647 : Int32)), (.int p3), (.long (nb + (1 : Int64)))])) _
        refine XS.iand X5.here hx rfl (hb hby at_79) rfl ?_
        show Steps p.tables e below (T5.setTop (mkF m 80 #[.val (.long p1), .second, .val (.long p2), .second, .val (.int p3), .val (.long (9223372036854775807 : Int64)), .second, .val (.long na), .second, .val (.ref a1), .val (.long nb), .second, .unset, .unset] [(.int (p3 &&& (2147483647 : Int32))), (.long (nb + (1 : Int64)))])) _
        refine XS.i2l X5.here hx rfl (hb hby at_80) rfl ?_
        show Steps p.tables e below (T5.setTop (mkF m 81 #[.val (.long p1), .second, .val (.long p2), .second, .val (.int p3), .val (.long (9223372036854775807 : Int64)), .second, .val (.long na), .second, .val (.ref a1), .val (.long nb), .second, .unset, .unset] [(.long ((p3 &&& (2147483647 : Int32)).toInt64)), (.long (nb + (1 : Int64)))])) _
        refine XS.lload X5.here hx rfl (hb hby at_81) rfl ?_
        show Steps p.tables e below (T5.setTop (mkF m 83 #[.val (.long p1), .second, .val (.long p2), .second, .val (.int p3), .val (.long (9223372036854775807 : Int64)), .second, .val (.long na), .second, .val (.ref a1), .val (.long nb), .second, .unset, .unset] [(.long (9223372036854775807 : Int64)), (.long ((p3 &&& (2147483647 : Int32)).toInt64)), (.long (nb + (1 : Int64)))])) _
        refine XS.lload X5.here hx rfl (hb hby at_83) rfl ?_
        show Steps p.tables e below (T5.setTop (mkF m 85 #[.val (.long p1), .second, .val (.long p2), .second, .val (.int p3), .val (.long (9223372036854775807 : Int64)), .second, .val (.long na), .second, .val (.ref a1), .val (.long nb), .second, .unset, .unset] [(.long nb), (.long (9223372036854775807 : Int64)), (.long ((p3 &&& (2147483647 : Int32)).toInt64)), (.long (nb + (1 : Int64)))])) _
        refine XS.lsub X5.here hx rfl (hb hby at_85) rfl ?_
        show Steps p.tables e below (T5.setTop (mkF m 86 #[.val (.long p1), .second, .val (.long p2), .second, .val (.int p3), .val (.long (9223372036854775807 : Int64)), .second, .val (.long na), .second, .val (.ref a1), .val (.long nb), .second, .unset, .unset] [(.long ((9223372036854775807 : Int64) - nb)), (.long ((p3 &&& (2147483647 : Int32)).toInt64)), (.long (nb + (1 : Int64)))])) _
        refine XS.lrem X5.here hx rfl (hb hby at_86) rfl (own_nz q2 hc66) ?_
        show Steps p.tables e below (T5.setTop (mkF m 87 #[.val (.long p1), .second, .val (.long p2), .second, .val (.int p3), .val (.long (9223372036854775807 : Int64)), .second, .val (.long na), .second, .val (.ref a1), .val (.long nb), .second, .unset, .unset] [(.long (((p3 &&& (2147483647 : Int32)).toInt64) - (((p3 &&& (2147483647 : Int32)).toInt64) / ((9223372036854775807 : Int64) - nb)) * ((9223372036854775807 : Int64) - nb))), (.long (nb + (1 : Int64)))])) _
        refine XS.ladd X5.here hx rfl (hb hby at_87) rfl ?_
        show Steps p.tables e below (T5.setTop (mkF m 88 #[.val (.long p1), .second, .val (.long p2), .second, .val (.int p3), .val (.long (9223372036854775807 : Int64)), .second, .val (.long na), .second, .val (.ref a1), .val (.long nb), .second, .unset, .unset] [(.long ((nb + (1 : Int64)) + (((p3 &&& (2147483647 : Int32)).toInt64) - (((p3 &&& (2147483647 : Int32)).toInt64) / ((9223372036854775807 : Int64) - nb)) * ((9223372036854775807 : Int64) - nb))))])) _
        refine XS.lstore X5.here hx rfl (hb hby at_88) rfl (l' := #[.val (.long p1), .second, .val (.long p2), .second, .val (.int p3), .val (.long (9223372036854775807 : Int64)), .second, .val (.long na), .second, .val (.ref a1), .val (.long nb), .second, .val (.long ((nb + (1 : Int64)) + (((p3 &&& (2147483647 : Int32)).toInt64) - (((p3 &&& (2147483647 : Int32)).toInt64) / ((9223372036854775807 : Int64) - nb)) * ((9223372036854775807 : Int64) - nb)))), .second]) rfl ?_
        show Steps p.tables e below (T5.setTop (mkF m 90 #[.val (.long p1), .second, .val (.long p2), .second, .val (.int p3), .val (.long (9223372036854775807 : Int64)), .second, .val (.long na), .second, .val (.ref a1), .val (.long nb), .second, .val (.long ((nb + (1 : Int64)) + (((p3 &&& (2147483647 : Int32)).toInt64) - (((p3 &&& (2147483647 : Int32)).toInt64) / ((9223372036854775807 : Int64) - nb)) * ((9223372036854775807 : Int64) - nb)))), .second] [])) _
        exact k
      obtain ⟨nd, hnd⟩ : ∃ z : Int64, z = ((nb + (1 : Int64)) + (((p3 &&& (2147483647 : Int32)).toInt64) - (((p3 &&& (2147483647 : Int32)).toInt64) / ((9223372036854775807 : Int64) - nb)) * ((9223372036854775807 : Int64) - nb))) := ⟨_, rfl⟩
      rw [← hnd]
      have g3 : nb.toInt < nd.toInt := by rw [hnd]; exact own_next q2 hc66 (own_m32 _)
      have l3 : nb < nd := Int64.lt_iff_toInt_lt.mpr g3
      obtain ⟨cq6, kq6, qa6, qb6, qc6⟩ := isOf hZ rfl Ea5
      obtain ⟨_, _, ⟨T6, uL6, uk6, un6⟩, -, X6, ⟨Lc6, hQ6, ul6, uy6, uz6⟩, st6⟩ := X5.virtualBack hx (y := (⟨"com/example/cicada/cicada/core/RequestNumbers", "take", "(J)V"⟩ : MethodName)) (z := (⟨"com/example/cicada/cicada/core/RequestNumbers", "take", "(J)V"⟩ : MethodName)) hown (mvT hZ (hw _ (List.mem_of_getElem? (i := 13) rfl))) (mvT hZ (hw _ (List.mem_of_getElem? (i := 14) rfl))) (notFace_of_selects (args := #[]) (mvT hZ (hw _ (List.mem_of_getElem? (i := 16) rfl)))) (mvT hZ (hw _ (List.mem_of_getElem? (i := 16) rfl))) (mvT hZ (hw _ (List.mem_of_getElem? (i := 15) rfl))) (by decide) (backOf (W := 0) (rm2 l Z a0 hw [] a1 nb nd T5.heap n0 Z5 Fa5_last Ea5 lo1 l3) hZ (hw _ (List.mem_of_getElem? (i := 17) rfl)) (hw _ (List.mem_of_getElem? (i := 3) rfl)) (by decide) (by decide)) qa6 qc6 (g := (mkF m 94 #[.val (.long p1), .second, .val (.long p2), .second, .val (.int p3), .val (.long (9223372036854775807 : Int64)), .second, .val (.long na), .second, .val (.ref a1), .val (.long nb), .second, .val (.long nd), .second] [(.long nd), (.ref a1)])) rfl (by rw [hml]; rfl) (Steps.refl _) (argsL := [(.long nd)]) (rest := []) (lenOf pd__28J_29V rfl) rfl (by show 2 * 0 + _ ≤ _; exact Nat.le_of_eq rfl) (hb hby at_94) (fun _ _ => ⟨rfl, rfl, (by decide : 1 + 0 ≤ _), (by decide : 1 + 0 ≤ _)⟩)
      dsimp only [Pt.U, Pt.locs, Pt.cells, Pt.slots] at X6 ul6 uy6 uz6 st6 hQ6
      subst ul6 uy6 uz6
      obtain ⟨rfl, Nq6, K6, Ea6, Fa6_last⟩ := hQ6
      have Z6 : n0 ≤ T6.heap.size := Nat.le_trans Z5 K6.1
      have N6 := Fr.app N5 Nq6
      refine own_end X6 Bd.notSynchronized (v := some (.int (1 : Int32))) (fun h => by rw [Bd.returns] at h; cases h) (fun fs hr => ?_) rfl ?_ (by decide) (by decide)
      · show Steps p.tables e below (T5.setTop (mkF m 90 #[.val (.long p1), .second, .val (.long p2), .second, .val (.int p3), .val (.long (9223372036854775807 : Int64)), .second, .val (.long na), .second, .val (.ref a1), .val (.long nb), .second, .val (.long nd), .second] [])) _
        refine XS.aload X5.here hx rfl (hb hby at_90) rfl rfl ?_
        show Steps p.tables e below (T5.setTop (mkF m 92 #[.val (.long p1), .second, .val (.long p2), .second, .val (.int p3), .val (.long (9223372036854775807 : Int64)), .second, .val (.long na), .second, .val (.ref a1), .val (.long nb), .second, .val (.long nd), .second] [(.ref a1)])) _
        refine XS.lload X5.here hx rfl (hb hby at_92) rfl ?_
        show Steps p.tables e below (T5.setTop (mkF m 94 #[.val (.long p1), .second, .val (.long p2), .second, .val (.int p3), .val (.long (9223372036854775807 : Int64)), .second, .val (.long na), .second, .val (.ref a1), .val (.long nb), .second, .val (.long nd), .second] [(.long nd), (.ref a1)])) _
        refine st6.trans ?_
        show Steps p.tables e below (T6.setTop (mkF m 97 #[.val (.long p1), .second, .val (.long p2), .second, .val (.int p3), .val (.long (9223372036854775807 : Int64)), .second, .val (.long na), .second, .val (.ref a1), .val (.long nb), .second, .val (.long nd), .second] [])) _
        refine XS.iconst X6.here hx rfl (hb hby at_97) ?_
        show Steps p.tables e below (T6.setTop (mkF m 98 #[.val (.long p1), .second, .val (.long p2), .second, .val (.int p3), .val (.long (9223372036854775807 : Int64)), .second, .val (.long na), .second, .val (.ref a1), .val (.long nb), .second, .val (.long nd), .second] [(.int (1 : Int32))])) _
        exact retN X6 hx (t := .boolean) Bd.returns (by simp) (hb hby at_98) hr
      · exact ⟨rfl, N6⟩
set_option maxRecDepth 65536 in
set_option maxHeartbeats 40000000 in
theorem comes_1 {Post : Tables → Env → Array Value → State → Outcome → State → Prop} (hpost : ∀ tb e args s v u, (limb_1_1.after args s (.returned v) u = true ∧ limb_1_2.after args s (.returned v) u = true ∧ True) → FrameEnd s (.returned v) u (Jvm.fieldLocs frame_1_writes args s ++ Jvm.arrayLocs frame_1_arrays args s ++ Jvm.staticLocs frame_1_statics s) 16 128 → Post tb e args s (.returned v) u) :
    ArmFor flags0 classFile x code maxLocals ret World_1 tables_1 room_1 Calls_1 rest_1 Pre_1 Post := by
  intro l hfl _ _ p e ha hc hk s m args below hf hA hF happ hP
  obtain ⟨hcalls, hrest, hpre⟩ := hP
  obtain ⟨-, -, -, hnamed, -, -, -, hat⟩ := (Spec.applies_iff hf).mp happ
  obtain ⟨hg, hn⟩ := and_e (Cond.before_iff.mp (show (Jvm.Cond.and given_1 narrow_1).before args s = true from hpre))
  obtain ⟨g0, r0⟩ := and_e hg
  obtain ⟨g1, r1⟩ := and_e r0
  obtain ⟨g2, r2⟩ := and_e r1
  obtain ⟨w0, w1, w2, rfl⟩ : ∃ w0 w1 w2 : Value, args = #[w0, w1, w2] := by
    have hs : args.size = 3 := by simpa [Cond.value, given_1] using g0
    obtain ⟨L⟩ := args
    match L, hs with
    | [w0, w1, w2], _ => exact ⟨w0, w1, w2, rfl⟩
  have hw := fun d (hd : d ∈ tables_1) => atoms_spec (ws := Jvm.Cond.code x code maxLocals ret :: tables_1) hat d (List.mem_cons_of_mem _ hd)
  obtain ⟨i0, y0⟩ := isL_v g1
  obtain rfl : w0 = (.long i0) := Option.some.inj y0
  obtain ⟨i1, y1⟩ := isL_v g2
  obtain rfl : w1 = (.long i1) := Option.some.inj y1
  obtain ⟨i2, y2⟩ := is_v r2
  obtain rfl : w2 = (.int i2) := Option.some.inj y2
  obtain ⟨n, o, h1, h2, h3, _, L, rfl, ⟨rfl, N⟩, hq⟩ := rm0 l s _ hw tables_1 i0 i1 i2 s.heap s.heap.size (Nat.le_refl _) p e ha hc hk s m _ below hf ((Spec.applies_iff_loose hf).mp happ).1 ⟨rfl, State.Warmed39.refl s, rfl⟩ trivial
  refine ⟨n, _, h1, h2, h3, hpost _ _ _ _ _ _ ⟨Cond.after_iff.mpr rfl, Cond.after_iff.mpr (eq_i res_at (Term.int_eval (1)) rfl), trivial⟩ ⟨hq.1, hq.2.1, (hq.2.2.sift fun y hy => Or.inr (N y hy)).mono (by decide) (by decide)⟩⟩
theorem main_1_1 : Claimed_1_1 := comes_1 fun _ _ _ _ _ _ h hF => ⟨h.1, hF⟩
theorem main_1_2 : Claimed_1_2 := comes_1 fun _ _ _ _ _ _ h hF => ⟨h.2.1, hF⟩
end Jvm.Pilot.@@N@@
namespace Jvm.Pilot.@@N@@
open Jvm Jvm.ClassFile Sem Op Lib Jvm.Free Jvm.Stand Jvm.Pilot.@@N@@.Jvm.D
/-! MADE BY PROGRAM (witnessworld.py) out of the Statement's table words and the real class files: 9 classes; the members and pool entries that the words name. The judged class is class 1, her method 1. -/
namespace start1
open Jvm.ClassFile
def u (s : String) : CpInfo := .utf8 (stringToUtf16 s)
/-- a pool by its gaps: so many unusable entries, then the entry; so many at the end -/
def gap : Nat → List CpInfo → List CpInfo
  | 0, r => r
  | n + 1, r => .unusable :: gap n r
def poolList (es : List (Nat × CpInfo)) (last : Nat) : List CpInfo := es.foldr (fun e r => gap e.1 (e.2 :: r)) (gap last [])
def pool (es : List (Nat × CpInfo)) (last : Nat) : Array CpInfo := ⟨poolList es last⟩
def fileOf (pool : Array CpInfo) (this : Nat) (attrs : Array Attribute := #[]) (ms : Array MethodInfo := #[]) (fl : Nat := 33) (sup : Nat := 0) (ifs : Array Nat := #[]) (fds : Array FieldInfo := #[]) : ClassFile where
  minorVersion := 0
  majorVersion := 65
  constantPool := pool
  accessFlags := fl
  thisClass := this
  superClass := sup
  interfaces := ifs
  fields := fds
  methods := ms
  attributes := attrs
def plain (name : String) (sup : Option ClassId) : Class where
  name := name
  kind := .ordinary
  loader := none
  accessFlags := 33
  super := sup
  interfaces := #[]
  cf := none
  fields := #[]
  methods := #[]
  instanceTypes := #[]
  staticTypes := #[]
  resolved := #[]
  callSites := []
  init := .initialized
  statics := none
  mirror := none

def pool0 : Array CpInfo := pool [(5, u "<init>"), (0, u "()V"), (1, .class_ 10), (1, u "java/lang/Object")] 113

def k0c0 : Code := { maxStack := 0, maxLocals := 1, code := object_method_1_code, exceptionTable := #[], attributes := #[] }
def k0m0 : Method := { name := "<init>", desc := "()V", sig := { parameters := [], returnType := none }, accessFlags := 1, code := some k0c0 }
/-- java/lang/Object -/
def k0 : Class := { plain "java/lang/Object" none with
  accessFlags := 33
  interfaces := #[]
  cf := some (fileOf pool0 8 #[] #[{ accessFlags := 1, nameIndex := 5, descriptorIndex := 6, attributes := #[] }] 33 0 #[] #[])
  fields := #[]
  methods := #[k0m0]
  instanceTypes := #[]
  staticTypes := #[]
  resolved := Array.replicate 124 none
  statics := none }

def pool1 : Array CpInfo := pool [(2, .class_ 4), (0, .nameAndType 5 6), (0, u "java/lang/Object"), (0, u "<init>"), (0, u "()V"), (2, .long 9223372036854775807), (1, .class_ 12), (0, u "com/example/cicada/cicada/core/RequestNumbers"), (0, .methodref 11 3), (0, .methodref 11 15), (0, .nameAndType 16 17), (0, u "take"), (0, u "(J)V"), (0, .integer 2147483647), (0, .class_ 20), (0, u "com/example/cicada/cicada/core/RequestNumbersTakePinLaw"), (2, u "law"), (0, u "(JJI)Z")] 3

def k1m0 : Method := { name := "<init>", desc := "()V", sig := { parameters := [], returnType := none }, accessFlags := 1, code := none }
def k1c1 : Code := { maxStack := 8, maxLocals := 14, code := code, exceptionTable := #[], attributes := #[] }
def k1m1 : Method := { name := "law", desc := "(JJI)Z", sig := { parameters := [.long, .long, .int], returnType := some .boolean }, accessFlags := 9, code := some k1c1 }
/-- com/example/cicada/cicada/core/RequestNumbersTakePinLaw -/
def k1 : Class := { plain "com/example/cicada/cicada/core/RequestNumbersTakePinLaw" (some 0) with
  accessFlags := 49
  interfaces := #[]
  cf := some (fileOf pool1 19 #[] #[{ accessFlags := 1, nameIndex := 5, descriptorIndex := 6, attributes := #[] }, { accessFlags := 9, nameIndex := 23, descriptorIndex := 24, attributes := #[] }] 49 2 #[] #[])
  fields := #[]
  methods := #[k1m0, k1m1]
  instanceTypes := #[]
  staticTypes := #[]
  resolved := Array.replicate 28 none
  statics := none }

def pool2 : Array CpInfo := pool [(1, .methodref 2 3), (0, .class_ 4), (0, .nameAndType 5 6), (0, u "java/lang/Object"), (0, u "<init>"), (0, u "()V"), (0, .long 18446744073709551615), (1, .fieldref 10 11), (0, .class_ 12), (0, .nameAndType 13 14), (0, u "com/example/cicada/cicada/core/RequestNumbers"), (0, u "last"), (0, u "J"), (11, u "take"), (0, u "(J)V")] 18

def k2c0 : Code := { maxStack := 3, maxLocals := 1, code := prog_43_method_1_code, exceptionTable := #[], attributes := #[] }
def k2m0 : Method := { name := "<init>", desc := "()V", sig := { parameters := [], returnType := none }, accessFlags := 0, code := some k2c0 }
def k2c1 : Code := { maxStack := 6, maxLocals := 3, code := prog_43_method_2_code, exceptionTable := #[], attributes := #[] }
def k2m1 : Method := { name := "take", desc := "(J)V", sig := { parameters := [.long], returnType := none }, accessFlags := 0, code := some k2c1 }
/-- com/example/cicada/cicada/core/RequestNumbers -/
def k2 : Class := { plain "com/example/cicada/cicada/core/RequestNumbers" (some 0) with
  accessFlags := 48
  interfaces := #[]
  cf := some (fileOf pool2 10 #[] #[{ accessFlags := 0, nameIndex := 5, descriptorIndex := 6, attributes := #[] }, { accessFlags := 0, nameIndex := 26, descriptorIndex := 27, attributes := #[] }] 48 2 #[] #[{ accessFlags := 2, nameIndex := 13, descriptorIndex := 14, attributes := #[] }])
  fields := #[{ name := "last", type := .long, accessFlags := 2, slot := 0, constantValue := 0 }]
  methods := #[k2m0, k2m1]
  instanceTypes := #[.long]
  staticTypes := #[]
  resolved := Array.replicate 46 none
  statics := none }

def pool3 : Array CpInfo := pool [(1, u "java/lang/Cloneable"), (0, .class_ 1), (0, u "java/lang/Object"), (0, .class_ 3)] 3

/-- java/lang/Cloneable -/
def k3 : Class := { plain "java/lang/Cloneable" (some 0) with
  accessFlags := 1537
  interfaces := #[]
  cf := some (fileOf pool3 2 #[] #[] 1537 4 #[] #[])
  fields := #[]
  methods := #[]
  instanceTypes := #[]
  staticTypes := #[]
  resolved := Array.replicate 8 none
  statics := none }

def pool4 : Array CpInfo := pool [(1, u "java/io/Serializable"), (0, .class_ 1), (0, u "java/lang/Object"), (0, .class_ 3)] 3

/-- java/io/Serializable -/
def k4 : Class := { plain "java/io/Serializable" (some 0) with
  accessFlags := 1537
  interfaces := #[]
  cf := some (fileOf pool4 2 #[] #[] 1537 4 #[] #[])
  fields := #[]
  methods := #[]
  instanceTypes := #[]
  staticTypes := #[]
  resolved := Array.replicate 8 none
  statics := none }

/-- the primitive byte -/
def k5 : Class := { plain "byte" none with kind := .primitive 'B', accessFlags := 0x411 }
/-- [B -/
def k6 : Class := { plain "[B" (some 0) with kind := .array 5 .byte, interfaces := #[3, 4], accessFlags := 1041 }

/-- the primitive int -/
def k7 : Class := { plain "int" none with kind := .primitive 'I', accessFlags := 0x411 }
/-- [I -/
def k8 : Class := { plain "[I" (some 0) with kind := .array 7 .int, interfaces := #[3, 4], accessFlags := 1041 }

def heap : Heap := #[]
def classes : Array Class := #[k0, k1, k2, k3, k4, k5, k6, k7, k8]
def interned : List (Array UInt16 × Addr) := []
def slotsUsed : Nat := 0
def theMethod : MethodId := ⟨1, 1⟩
def args0 : Array Value := #[.long 5, .long 1, .int 7]
def aboutOver (below : List Frame) : State where
  vm := { classes := classes, interned := interned.toArray }
  heap := heap
  slotsUsed := slotsUsed
  threads := #[{ frames := .invoking theMethod args0 :: below }]
def below0 : List Frame := [.native { method := ⟨0, 0⟩, args := #[] }]
def about1 : State := aboutOver below0
def p0 : Program := .bare "" "" ""
def e0 : Env := launch0.env 0 0 0
theorem w_frames : about1.frames = Frame.invoking theMethod args0 :: below0 := rfl
set_option maxRecDepth 65536 in
theorem w_args : argsFit about1.vm theMethod args0 = true := by decide +kernel
set_option maxRecDepth 65536 in
theorem w_heap : heapFits about1 = true := by decide +kernel
set_option maxRecDepth 65536 in
theorem w_runnable : about1.curStatus? = some .runnable := by decide +kernel
set_option maxRecDepth 65536 in
theorem w_alone : about1.alone = true := by decide +kernel
set_option maxRecDepth 65536 in
theorem w_named : about1.methodNamed? x = some theMethod := by decide +kernel
set_option maxRecDepth 65536 in
theorem w_hears : about1.hears theMethod below0 = true := by decide +kernel
set_option maxRecDepth 65536 in
theorem w_ripe : about1.ripe theMethod args0 below0 = true := by decide +kernel
theorem w_running : about1.status = .running := rfl
set_option maxRecDepth 65536 in
theorem w_room : about1.hasRoom e0.platform room_1 = true :=
  launch0.hasRoom_least _ room_1 (by decide +kernel) (by decide +kernel) (by decide +kernel) (by decide +kernel) (by decide +kernel) (by decide +kernel)
theorem allAtoms_all (ts : List Jvm.Cond) (a : Array Jvm.Value) (st : Jvm.State) : (allAtoms ts).before a st = ts.all (fun c => c.before a st) := by
  induction ts with
  | nil => rfl
  | cons c t ih =>
    show (Jvm.Cond.and c (allAtoms t)).before a st = _
    rw [Jvm.Cond.before_and, ih, List.all_cons]
def words1 : List Jvm.Cond := Jvm.Cond.code x code maxLocals ret :: tables_1
/-- a 'code' word, met by the world's own term for the bytes: nothing is compared byte by byte -/
theorem code_word {y : MethodName} {bytes : ByteArray} {mx : Nat} {rt : Option FieldType} {a : Array Value} {s : State} {m : MethodId} {meth : Method} {c : Code} (h1 : s.methodNamed? y = some m) (h2 : s.vm.method? m = some meth) (h3 : meth.code = some c) (h4 : c.code = bytes)
    (h5 : (c.maxLocals == mx && c.exceptionTable.isEmpty && decide (c.maxStack ≤ mostOperands) && decide (meth.sig.returnType = rt) && !meth.locks && decide (parseMethodDescriptor y.desc = some meth.sig)) = true) : (Jvm.Cond.code y bytes mx rt).before a s = true := by
  simp only [Bool.and_eq_true, beq_iff_eq, Bool.not_eq_true', decide_eq_true_eq] at h5
  obtain ⟨⟨⟨⟨⟨g1, g2⟩, g3⟩, g4⟩, g5⟩, g6⟩ := h5
  simp [Cond.before, Cond.holds, Cond.value, h1, h2, h3, h4, g1, g2, g3, g4, g5, g6]
def isCode : Jvm.Cond → Bool
  | .code _ _ _ _ => true
  | _ => false
theorem all_split {L : List Jvm.Cond} {P : Jvm.Cond → Bool} (h1 : L.all (fun c => isCode c || P c) = true) (h2 : ∀ c ∈ L.filter isCode, P c = true) : L.all P = true := by
  refine List.all_eq_true.mpr fun c hc => ?_
  have h := List.all_eq_true.mp h1 c hc
  rcases Bool.eq_false_or_eq_true (isCode c) with hi | hi
  · exact h2 c (List.mem_filter.mpr ⟨hc, hi⟩)
  · simpa [hi] using h
set_option maxRecDepth 65536 in
theorem w_c0 : (Jvm.Cond.code x code maxLocals ret).before args0 about1 = true := code_word (m := ⟨1, 1⟩) (meth := k1m1) (c := k1c1) (by decide +kernel) rfl rfl rfl (by decide +kernel)
set_option maxRecDepth 65536 in
theorem w_c1 : (Jvm.Cond.code ({ cls := "com/example/cicada/cicada/core/RequestNumbers", name := "<init>", desc := "()V" } : Jvm.MethodName) prog_43_method_1_code (1 : Nat) (Option.none : Option Jvm.ClassFile.FieldType)).before args0 about1 = true := code_word (m := ⟨2, 0⟩) (meth := k2m0) (c := k2c0) (by decide +kernel) rfl rfl rfl (by decide +kernel)
set_option maxRecDepth 65536 in
theorem w_c2 : (Jvm.Cond.code ({ cls := "java/lang/Object", name := "<init>", desc := "()V" } : Jvm.MethodName) object_method_1_code (1 : Nat) (Option.none : Option Jvm.ClassFile.FieldType)).before args0 about1 = true := code_word (m := ⟨0, 0⟩) (meth := k0m0) (c := k0c0) (by decide +kernel) rfl rfl rfl (by decide +kernel)
set_option maxRecDepth 65536 in
theorem w_c3 : (Jvm.Cond.code ({ cls := "com/example/cicada/cicada/core/RequestNumbers", name := "take", desc := "(J)V" } : Jvm.MethodName) prog_43_method_2_code (3 : Nat) (Option.none : Option Jvm.ClassFile.FieldType)).before args0 about1 = true := code_word (m := ⟨2, 1⟩) (meth := k2m1) (c := k2c1) (by decide +kernel) rfl rfl rfl (by decide +kernel)
def codes1 : List Jvm.Cond := [Jvm.Cond.code x code maxLocals ret, Jvm.Cond.code ({ cls := "com/example/cicada/cicada/core/RequestNumbers", name := "<init>", desc := "()V" } : Jvm.MethodName) prog_43_method_1_code (1 : Nat) (Option.none : Option Jvm.ClassFile.FieldType), Jvm.Cond.code ({ cls := "java/lang/Object", name := "<init>", desc := "()V" } : Jvm.MethodName) object_method_1_code (1 : Nat) (Option.none : Option Jvm.ClassFile.FieldType), Jvm.Cond.code ({ cls := "com/example/cicada/cicada/core/RequestNumbers", name := "take", desc := "(J)V" } : Jvm.MethodName) prog_43_method_2_code (3 : Nat) (Option.none : Option Jvm.ClassFile.FieldType)]
set_option maxRecDepth 65536 in
theorem codes_eq : words1.filter isCode = codes1 := rfl
theorem w_codes : ∀ c ∈ words1.filter isCode, c.before args0 about1 = true := by
  rw [codes_eq]
  intro c hc
  simp only [codes1, List.mem_cons, List.not_mem_nil, or_false] at hc
  rcases hc with rfl | rfl | rfl | rfl
  · exact w_c0
  · exact w_c1
  · exact w_c2
  · exact w_c3
set_option maxRecDepth 65536 in
theorem w_t1 : words1.all (fun c => isCode c || c.before args0 about1) = true := by decide +kernel
theorem w_tables : (allAtoms (Jvm.Cond.code x code maxLocals ret :: tables_1)).before args0 about1 = true := by
  rw [allAtoms_all]
  show words1.all (fun c => c.before args0 about1) = true
  refine all_split ?_ w_codes
  rw [w_t1]
set_option maxRecDepth 65536 in
theorem w_case : (Jvm.Cond.and given_1 narrow_1).before args0 about1 = true := by decide +kernel
theorem w_applies : (headSpec (Jvm.Cond.code x code maxLocals ret :: tables_1) room_1).applies x e0.platform about1 = true :=
  (Spec.applies_iff w_frames).mpr ⟨w_running, w_runnable, w_alone, w_named, w_hears, w_ripe, w_room, w_tables⟩
theorem atStart : AtStart classFile x code maxLocals ret World_1 tables_1 room_1 Calls_1 rest_1 Pre_1 launch0 p0 e0 about1 theMethod args0 below0 :=
  ⟨lists_1, trivial, launch0.admits_env _ _ _, launch0.least_env, fairChoices_fair.cas, fairChoices_fair.clock, w_frames, w_args, w_heap, w_applies, trivial, trivial, w_case⟩
end start1
theorem witness_1 : WitnessClaimed_1 := ⟨start1.p0, start1.e0, start1.about1, start1.theMethod, start1.args0, start1.below0, start1.atStart⟩
end Jvm.Pilot.@@N@@
