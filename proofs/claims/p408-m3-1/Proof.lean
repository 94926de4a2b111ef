import JvmDerived
import JvmDerived.Pilot.@@N@@Statement
import JvmDerived.Pilot.@@N@@Code
set_option linter.unusedVariables false
set_option linter.unusedSimpArgs false
@@BLOCK:NumsL.lean.txt@@
@@BLOCK:Masks.lean.txt@@
namespace Jvm.RoadKit
open Sem ClassFile Op Lib Jvm.Stand Jvm.Free Jvm.LawKit
section New
variable {p : Program} {l : Launch} {e : Env} {R : Room} {s : State} {m : MethodId} {args : Array Value} {below : List Frame} {meth : Method} {c : Code} {T : State} {locs : List Loc} {cells slots : Nat}
theorem retI (X : Stand p l e R s m args below meth c T locs cells slots) (hx : p.tables.exec = Jvm.exec) {pc : Nat} {Ls : Array Slot} {z : Int32} {rest : List Value} (hret : meth.sig.returnType = some .int) (hd : decode c.code pc = .ok (.ireturn, 1)) {fs : List Frame}
    (hl : ∀ (f : JFrame) (acts : List Action), f.method = m → f.locked = none → f.entered = [] → (doReturn e (T.setTop f) acts (some (.int z))).1 = T.setFrames fs) : Steps p.tables e below (T.setTop (mkF m pc Ls (.int z :: rest))) (T.setFrames fs) := by
  have hm' : T.vm.method? m = some meth := X.method'
  have hn : narrow .int (.int z) = .int z := rfl
  show Steps p.tables e below (T.setTop { method := m, pc := pc, locals := Ls, stack := _ :: rest, locked := none }) _
  jvm_step X.here [X.here.top, hx, hd, hm', hret, hn]
  first | (intro acts; rw [hl _ acts rfl rfl rfl]) | rw [hl _ _ rfl rfl rfl]
  exact Steps.refl _
end New
end Jvm.RoadKit
namespace Jvm.Pilot.@@N@@
open Jvm Jvm.ClassFile Sem Op Lib Jvm.Free Jvm.Stand Jvm.LawKit Jvm.RoadKit Bundle Jvm.Pilot.@@N@@.Jvm.D
abbrev own_Go (p : Program) (e : Env) (below : List Frame) (s : State) (Q : Option Value → Heap → List Loc → Prop) (cs ss : Nat) (a : State) : Prop := ∃ (t : State) (o : Outcome), Steps p.tables e below a t ∧ t.status = .running ∧ Ended t below o ∧ ∃ (v : Option Value) (L : List Loc), o = .returned v ∧ Q v t.heap L ∧ FrameEnd s o t L cs ss
section Own
variable {p : Program} {l : Launch} {e : Env} {R : Room} {s : State} {m : MethodId} {args : Array Value} {below : List Frame} {meth : Method} {c : Code} {T : State} {locs : List Loc} {cells slots : Nat} {Q : Option Value → Heap → List Loc → Prop} {cs ss : Nat}
theorem own_go {a b : State} (h : ∀ t, Steps p.tables e below b t → Steps p.tables e below a t) (g : own_Go p e below s Q cs ss b) : own_Go p e below s Q cs ss a := by
  obtain ⟨t, o, h1, h2⟩ := g
  exact ⟨t, o, h t h1, h2⟩
theorem own_end (X : Stand p l e R s m args below meth c T locs cells slots) (hlk : meth.locks = false) {v : Option Value} (hv : meth.sig.returnType = none → v = none) {a : State}
    (hs : ∀ fs, (∀ (f : JFrame) (acts : List Action), f.method = m → f.locked = none → f.entered = [] → (doReturn e (T.setTop f) acts v).1 = T.setFrames fs) → Steps p.tables e below a (T.setFrames fs))
    {h : Heap} (eT : T.heap = h) (hq : Q v h locs) (h1 : cells ≤ cs) (h2 : slots ≤ ss) : own_Go p e below s Q cs ss a := by
  obtain ⟨fs, hr, hrun, hended, hW, hsame⟩ := X.leave hv hlk
  subst eT
  exact ⟨_, _, hs fs hr, hrun, hended, _, _, rfl, hq, ⟨_, rfl⟩, hW, hsame.mono h1 h2⟩
end Own
theorem own_hin {n : Nat} {cl : Cell} {j : Int32} (S : cl.slots.size = n) (h : ¬ j < 0 ∧ j.toNatClampNeg < n) : ¬ (j < 0 ∨ cl.slots.size ≤ j.toNatClampNeg) := by
  rw [S]; exact fun q => q.elim h.1 (fun u => absurd h.2 (Nat.not_lt.mpr u))
theorem own_has {cl : Cell} {xs : List Int32} {n : Nat} (H : Has cl (xs.map Value.int) (.int 0)) (S : cl.slots.size = n) : ∀ i, i < n → cl.slots[i]? = some (.int (xs.getD i 0)) := by
  intro i hi
  rw [H i (by rw [S]; exact hi)]
  simp only [List.getD_eq_getElem?_getD, List.getElem?_map]
  cases xs[i]? <;> rfl
theorem own_hasL {cl : Cell} {xs : List Int64} {n : Nat} (H : Has cl (xs.map Value.long) (.long 0)) (S : cl.slots.size = n) : ∀ i, i < n → cl.slots[i]? = some (.long (xs.getD i 0)) := by
  intro i hi
  rw [H i (by rw [S]; exact hi)]
  simp only [List.getD_eq_getElem?_getD, List.getElem?_map]
  cases xs[i]? <;> rfl
theorem d1_0 : decode prog_42_method_1_code 0 = .ok (.aload_n 0, 1) := by decide +kernel
theorem d1_1 : decode prog_42_method_1_code 1 = .ok (.invokespecial 1, 3) := by decide +kernel
theorem d1_4 : decode prog_42_method_1_code 4 = .ok (.aload_n 0, 1) := by decide +kernel
theorem d1_5 : decode prog_42_method_1_code 5 = .ok (.aload_n 1, 1) := by decide +kernel
theorem d1_6 : decode prog_42_method_1_code 6 = .ok (.putfield 7, 3) := by decide +kernel
theorem d1_9 : decode prog_42_method_1_code 9 = .ok (.return_, 1) := by decide +kernel
theorem pn_1 : plainName "com/example/cicada/cicada/core/Payload" = true := by first | (simp [plainName, overriddenIn]; done) | decide +kernel
theorem ef_1 (m : MethodId) (x0 : Addr) (x1 : Addr) : entryFrame m #[(.ref x0), (.ref x1)] 2 = mkF m 0 #[.val (.ref x0), .val (.ref x1)] [] := by first | (simp [entryFrame, mkF, argsToLocals, Value.category]; done) | rfl
def Q1 (Z : State) (b1 : Addr) (b2 : Addr) (h0 : Heap) (n0 : Nat) (v : Option Value) (h : Heap) (L : List Loc) : Prop := v = none ∧ Fr n0 L ∧ Keep h0 h [b1] ∧ Exa Z h b1 "com/example/cicada/cicada/core/Payload" ∧ Fld Z h b1 "com/example/cicada/cicada/core/Payload" "bytes" "[B" (.ref b2)
set_option maxRecDepth 65536 in
set_option maxHeartbeats 40000000 in
theorem rm1 (l : Launch) (Z : State) (a0 : Array Value) (hw : ∀ d ∈ tables_1, d.before a0 Z = true) (ws : List Jvm.Cond)  (b1 : Addr) (b2 : Addr) (h0 : Heap) (n0 : Nat) (Z0 : n0 ≤ h0.size) (F_bytes : Fld Z h0 b1 "com/example/cicada/cicada/core/Payload" "bytes" "[B" .null) (E_b1 : Exa Z h0 b1 "com/example/cicada/cicada/core/Payload") (lo_b1 : n0 ≤ b1)  :
    MetFree l (⟨"com/example/cicada/cicada/core/Payload", "<init>", "([B)V"⟩ : MethodName) (head1 (Jvm.Cond.code (⟨"com/example/cicada/cicada/core/Payload", "<init>", "([B)V"⟩ : MethodName) prog_42_method_1_code 2 none :: ws) ({ frames := 1, cells := 0, slots := 0, locals := 12 } : Room)) (fun a U => a = #[(.ref b1), (.ref b2)] ∧ Z.Warmed39 U.vm ∧ U.heap = h0) (fun _ _ _ _ _ => True) (fun _ U o U' => ∃ v L, o = .returned v ∧ Q1 Z b1 b2 h0 n0 v U'.heap L ∧ FrameEnd U o U' L ({ frames := 1, cells := 0, slots := 0, locals := 12 } : Room).cells ({ frames := 1, cells := 0, slots := 0, locals := 12 } : Room).slots) := by
  refine MetFree.of_bodySF (plainFor_of_name pn_1) hisR ?_
  intro p e s m args below meth c s₁ Bd hml0 hP hK
  obtain ⟨rfl, hZ, hh⟩ := hP
  have hx := Bd.exec
  have hby := Bd.bytes
  have hml : c.maxLocals = 2 := hml0
  have hown : s.vm.findClass "com/example/cicada/cicada/core/Payload" = some m.cls := findClass_of_methodNamed Bd.named
  have hnm := (name_of_methodNamed Bd.named Bd.method).1
  have X0 : Stand p l e ({ frames := 1, cells := 0, slots := 0, locals := 12 } : Room) s m #[(.ref b1), (.ref b2)] below meth c s₁ [] 0 0 := Stand.of_body Bd
  have e0 : s₁.heap = h0 := by rw [← hh, Bd.state]; rfl
  have N0 := Fr.nil n0
  show own_Go p e below s (Q1 Z b1 b2 h0 n0) ({ frames := 1, cells := 0, slots := 0, locals := 12 } : Room).cells ({ frames := 1, cells := 0, slots := 0, locals := 12 } : Room).slots (s₁.setTop (entryFrame m #[(.ref b1), (.ref b2)] 2))
  refine own_go (b := s₁.setTop (mkF m 0 #[.val (.ref b1), .val (.ref b2)] [])) (fun t k => castTop (ef_1 m b1 b2) k) ?_
  have K0 := Keep.refl h0 [b1]
  obtain ⟨T1, X1, e1, st1⟩ := initO X0 hx hZ hown (hw _ (List.mem_of_getElem? (i := 20) rfl)) (hw _ (List.mem_of_getElem? (i := 21) rfl)) (hw _ (List.mem_of_getElem? (i := 22) rfl)) e0 (g := (mkF m 1 #[.val (.ref b1), .val (.ref b2)] [(.ref b1)])) rfl (by rw [hml]; rfl) rfl (hb hby d1_1) (by decide) (W := 0) (by show 2 * 0 + _ ≤ _; exact Nat.le_of_eq rfl) (by decide)
  obtain ⟨T2, h2, X2, e2, W2, st2⟩ := putF X1 hx hZ hown (host := "") (Or.inl (hw _ (List.mem_of_getElem? (i := 23) rfl))) Via.refl e1 F_bytes E_b1 (Or.inr ⟨(hw _ (List.mem_of_getElem? (i := 24) rfl)), rfl, hnm⟩) (hw _ (List.mem_of_getElem? (i := 7) rfl)) (ty := (.array .byte)) (by decide) rfl rfl (g := (mkF m 6 #[.val (.ref b1), .val (.ref b2)] [(.ref b2), (.ref b1)])) rfl rfl (hb hby d1_6)
  have N2 := Fr.snoc X2 N0 lo_b1
  have K2 := K0.wr W2 (Or.inl (List.mem_of_getElem? (i := 0) rfl))
  have F3 : Fld Z h2 b1 "com/example/cicada/cicada/core/Payload" "bytes" "[B" (.ref b2) := F_bytes.same W2
  have E4 := E_b1.wr W2
  have Z2 : n0 ≤ h2.size := by rw [W2.size]; exact Z0
  refine own_end X2 Bd.notSynchronized (v := none) (fun _ => rfl) (fun fs hr => ?_) e2 ?_ (by decide) (by decide)
  · show Steps p.tables e below (s₁.setTop (mkF m 0 #[.val (.ref b1), .val (.ref b2)] [])) _
    refine XS.aloadN X0.here hx rfl (hb hby d1_0) rfl rfl ?_
    show Steps p.tables e below (s₁.setTop (mkF m 1 #[.val (.ref b1), .val (.ref b2)] [(.ref b1)])) _
    refine st1 _ ?_
    show Steps p.tables e below (T1.setTop (mkF m 4 #[.val (.ref b1), .val (.ref b2)] [])) _
    refine XS.aloadN X1.here hx rfl (hb hby d1_4) rfl rfl ?_
    show Steps p.tables e below (T1.setTop (mkF m 5 #[.val (.ref b1), .val (.ref b2)] [(.ref b1)])) _
    refine XS.aloadN X1.here hx rfl (hb hby d1_5) rfl rfl ?_
    show Steps p.tables e below (T1.setTop (mkF m 6 #[.val (.ref b1), .val (.ref b2)] [(.ref b2), (.ref b1)])) _
    refine st2 _ ?_
    show Steps p.tables e below (T2.setTop (mkF m 9 #[.val (.ref b1), .val (.ref b2)] [])) _
    exact X2.returnOut hx Bd.returns (hb hby d1_9) hr
  · exact ⟨rfl, N2, K2, E4, F3⟩
theorem pd__28_5bB_29V : parseMethodDescriptor "([B)V" = some ⟨[(.array .byte)], none⟩ := by decide +kernel
theorem d2_0 : decode prog_42_method_2_code 0 = .ok (.new 8, 3) := by decide +kernel
theorem d2_3 : decode prog_42_method_2_code 3 = .ok (.dup, 1) := by decide +kernel
theorem d2_4 : decode prog_42_method_2_code 4 = .ok (.aload_n 0, 1) := by decide +kernel
theorem d2_5 : decode prog_42_method_2_code 5 = .ok (.invokevirtual 13, 3) := by decide +kernel
theorem d2_8 : decode prog_42_method_2_code 8 = .ok (.checkcast 14, 3) := by decide +kernel
theorem d2_11 : decode prog_42_method_2_code 11 = .ok (.invokespecial 18, 3) := by decide +kernel
theorem d2_14 : decode prog_42_method_2_code 14 = .ok (.areturn, 1) := by decide +kernel
theorem pn_2 : plainName "com/example/cicada/cicada/core/Payload" = true := by first | (simp [plainName, overriddenIn]; done) | decide +kernel
theorem ef_2 (m : MethodId) (x0 : Addr) : entryFrame m #[(.ref x0)] 1 = mkF m 0 #[.val (.ref x0)] [] := by first | (simp [entryFrame, mkF, argsToLocals, Value.category]; done) | rfl
def Q2 (Z : State) (b1 : Addr) (k1 : ClassId) (z1 : Int32) (vs1 : List Value) (h0 : Heap) (n0 : Nat) (v : Option Value) (h : Heap) (L : List Loc) : Prop := ∃ (r q : Addr), v = some (.ref r) ∧ Fr n0 L ∧ Keep h0 h [] ∧ h0.size ≤ r ∧ r < q ∧ Exa Z h r "com/example/cicada/cicada/core/Payload" ∧ Fld Z h r "com/example/cicada/cicada/core/Payload" "bytes" "[B" (.ref q) ∧ Exa Z h q "[B" ∧ Arv Z h q k1 .byte z1 vs1 (.int 0)
set_option maxRecDepth 65536 in
set_option maxHeartbeats 40000000 in
theorem rm2 (l : Launch) (Z : State) (a0 : Array Value) (hw : ∀ d ∈ tables_1, d.before a0 Z = true) (ws : List Jvm.Cond)  (b1 : Addr) (k1 : ClassId) (z1 : Int32) (vs1 : List Value) (h0 : Heap) (n0 : Nat) (Z0 : n0 ≤ h0.size) (V_b1 : Arv Z h0 b1 k1 .byte z1 vs1 (.int 0)) (E_b1 : Exa Z h0 b1 "[B") (hcap : z1.toNatClampNeg ≤ 4) :
    MetFree l (⟨"com/example/cicada/cicada/core/Payload", "of", "([B)Lcom/example/cicada/cicada/core/Payload;"⟩ : MethodName) (head1 (Jvm.Cond.code (⟨"com/example/cicada/cicada/core/Payload", "of", "([B)Lcom/example/cicada/cicada/core/Payload;"⟩ : MethodName) prog_42_method_2_code 1 (some (.object "com/example/cicada/cicada/core/Payload")) :: ws) ({ frames := 2, cells := 2, slots := 5, locals := 40 } : Room)) (fun a U => a = #[(.ref b1)] ∧ Z.Warmed39 U.vm ∧ U.heap = h0) (fun _ _ _ _ _ => True) (fun _ U o U' => ∃ v L, o = .returned v ∧ Q2 Z b1 k1 z1 vs1 h0 n0 v U'.heap L ∧ FrameEnd U o U' L ({ frames := 2, cells := 2, slots := 5, locals := 40 } : Room).cells ({ frames := 2, cells := 2, slots := 5, locals := 40 } : Room).slots) := by
  refine MetFree.of_bodySF (plainFor_of_name pn_2) hisR ?_
  intro p e s m args below meth c s₁ Bd hml0 hP hK
  obtain ⟨rfl, hZ, hh⟩ := hP
  have hx := Bd.exec
  have hby := Bd.bytes
  have hml : c.maxLocals = 1 := hml0
  have hown : s.vm.findClass "com/example/cicada/cicada/core/Payload" = some m.cls := findClass_of_methodNamed Bd.named
  have hnm := (name_of_methodNamed Bd.named Bd.method).1
  have X0 : Stand p l e ({ frames := 2, cells := 2, slots := 5, locals := 40 } : Room) s m #[(.ref b1)] below meth c s₁ [] 0 0 := Stand.of_body Bd
  have e0 : s₁.heap = h0 := by rw [← hh, Bd.state]; rfl
  have N0 := Fr.nil n0
  show own_Go p e below s (Q2 Z b1 k1 z1 vs1 h0 n0) ({ frames := 2, cells := 2, slots := 5, locals := 40 } : Room).cells ({ frames := 2, cells := 2, slots := 5, locals := 40 } : Room).slots (s₁.setTop (entryFrame m #[(.ref b1)] 1))
  refine own_go (b := s₁.setTop (mkF m 0 #[.val (.ref b1)] [])) (fun t k => castTop (ef_2 m b1) k) ?_
  have K0 := Keep.refl h0 []
  obtain ⟨T1, h1, X1, e1, E1, A1, D1, -, st1⟩ := newO X0 hx hZ hown (hw _ (List.mem_of_getElem? (i := 6) rfl)) (hw _ (List.mem_of_getElem? (i := 7) rfl)) (hw _ (List.mem_of_getElem? (i := 4) rfl)) e0 (g := (mkF m 0 #[.val (.ref b1)] [])) rfl (hb hby d2_0) (by decide) (by decide)
  obtain ⟨a1, ga1⟩ : ∃ z, z = h0.size := ⟨_, rfl⟩
  rw [← ga1] at A1 D1 st1
  have lt1_b1 : b1 < a1 := by rw [ga1]; exact V_b1.lt
  have ge1 : h0.size ≤ a1 := Nat.le_trans K0.1 (Nat.le_of_eq ga1.symm)
  have K1 := K0.ext E1
  have V2 := V_b1.ext E1
  have E3 := E_b1.ext E1
  have lo1 : n0 ≤ a1 := Nat.le_trans Z0 (Nat.le_of_eq ga1.symm)
  have Z1 : n0 ≤ h1.size := Nat.le_trans Z0 E1.1
  have F4 : Fld Z h1 a1 "com/example/cicada/cicada/core/Payload" "bytes" "[B" .null := D1 (Or.inr (hw _ (List.mem_of_getElem? (i := 24) rfl))) (ty := (.array .byte)) (by decide)
  obtain ⟨T5, h5, X5, e5, E5, A5, B5, st5⟩ := cloneH X1 hx hZ hown (hw _ (List.mem_of_getElem? (i := 8) rfl)) (hw _ (List.mem_of_getElem? (i := 9) rfl)) (hw _ (List.mem_of_getElem? (i := 13) rfl)) (hw _ (List.mem_of_getElem? (i := 11) rfl)) (hw _ (List.mem_of_getElem? (i := 12) rfl)) (hw _ (List.mem_of_getElem? (i := 14) rfl)) e1 V2.arh E3 (g := (mkF m 5 #[.val (.ref b1)] [(.ref b1), (.ref a1), (.ref a1)])) rfl (by rw [hml]; rfl) (rest := [(.ref a1), (.ref a1)]) rfl (hb hby d2_5) (by decide) (W := 2) (cap := 4) (by show 2 * 0 + _ ≤ _; exact Nat.le_of_eq rfl) (by decide) hcap (by decide) (by decide)
  obtain ⟨a5, ga5⟩ : ∃ z, z = h1.size := ⟨_, rfl⟩
  rw [← ga5] at A5 B5 st5
  have lt5_b1 : b1 < a5 := by rw [ga5]; exact V2.lt
  have lt5_a1 : a1 < a5 := by rw [ga5]; exact A1.lt
  have ge5 : h0.size ≤ a5 := Nat.le_trans K1.1 (Nat.le_of_eq ga5.symm)
  have K5 := K1.ext E5
  have V6 := V2.ext E5
  have E7 := E3.ext E5
  have E8 := A1.ext E5
  have F9 := F4.ext E5
  have lo5 : n0 ≤ a5 := Nat.le_trans Z1 (Nat.le_of_eq ga5.symm)
  have Z5 : n0 ≤ h5.size := Nat.le_trans Z1 E5.1
  obtain ⟨T10, X10, e10, st10⟩ := castY X5 hx hZ hown (hw _ (List.mem_of_getElem? (i := 15) rfl)) e5 (Ins.self B5) (g := (mkF m 8 #[.val (.ref b1)] [(.ref a5), (.ref a1), (.ref a1)])) rfl rfl (hb hby d2_8)
  obtain ⟨_, _, ⟨T11, uL11, uk11, un11⟩, -, X11, ⟨Lc11, hQ11, ul11, uy11, uz11⟩, st11⟩ := X10.specialBack hx (y := (⟨"com/example/cicada/cicada/core/Payload", "<init>", "([B)V"⟩ : MethodName)) rfl hown (mvT hZ (hw _ (List.mem_of_getElem? (i := 17) rfl))) (mvT hZ (hw _ (List.mem_of_getElem? (i := 18) rfl))) (mvT hZ (hw _ (List.mem_of_getElem? (i := 19) rfl))) (by decide) (backOf (W := 1) (rm1 l Z a0 hw [] a1 a5 h5 n0 Z5 F9 E8 lo1 ) hZ (hw _ (List.mem_of_getElem? (i := 19) rfl)) (hw _ (List.mem_of_getElem? (i := 4) rfl)) (by decide) (by decide)) (g := (mkF m 11 #[.val (.ref b1)] [(.ref a5), (.ref a1), (.ref a1)])) rfl (by rw [hml]; rfl) (Steps.refl _) (a := a1) (argsL := [(.ref a5)]) (rest := [(.ref a1)]) (lenOf pd__28_5bB_29V rfl) rfl (by show 2 * 0 + _ ≤ _; exact Nat.le_of_eq rfl) (hb hby d2_11) (fun _ _ => ⟨rfl, e10, (by decide : 2 + 0 ≤ _), (by decide : 5 + 0 ≤ _)⟩)
  dsimp only [Pt.U, Pt.locs, Pt.cells, Pt.slots] at X11 ul11 uy11 uz11 st11 hQ11
  subst ul11 uy11 uz11
  obtain ⟨rfl, Nq11, K11, Ea11, Fa11_bytes⟩ := hQ11
  have V12 := V6.keep K11 (ninS (Nat.ne_of_lt lt1_b1) nin0)
  have E13 := E7.keep K11
  have E14 := B5.keep K11
  have V15 := A5.keep K11 (ninS (Nat.ne_of_gt lt5_a1) nin0)
  have Z11 : n0 ≤ T11.heap.size := Nat.le_trans Z5 K11.1
  have Kc11 := K5.trans K11 (allS (Or.inr ge1) all0)
  have N11 := Fr.app N0 Nq11
  refine own_end X11 Bd.notSynchronized (v := some (.ref a1)) (fun h => by rw [Bd.returns] at h; cases h) (fun fs hr => ?_) rfl ?_ (by decide) (by decide)
  · show Steps p.tables e below (s₁.setTop (mkF m 0 #[.val (.ref b1)] [])) _
    refine st1 _ ?_
    show Steps p.tables e below (T1.setTop (mkF m 3 #[.val (.ref b1)] [(.ref a1)])) _
    refine XS.dup X1.here hx rfl (hb hby d2_3) rfl rfl ?_
    show Steps p.tables e below (T1.setTop (mkF m 4 #[.val (.ref b1)] [(.ref a1), (.ref a1)])) _
    refine XS.aloadN X1.here hx rfl (hb hby d2_4) rfl rfl ?_
    show Steps p.tables e below (T1.setTop (mkF m 5 #[.val (.ref b1)] [(.ref b1), (.ref a1), (.ref a1)])) _
    refine st5 _ ?_
    show Steps p.tables e below (T5.setTop (mkF m 8 #[.val (.ref b1)] [(.ref a5), (.ref a1), (.ref a1)])) _
    refine st10 _ ?_
    show Steps p.tables e below (T10.setTop (mkF m 11 #[.val (.ref b1)] [(.ref a5), (.ref a1), (.ref a1)])) _
    refine st11.trans ?_
    show Steps p.tables e below (T11.setTop (mkF m 14 #[.val (.ref b1)] [(.ref a1)])) _
    exact retOut X11 hx Bd.returns rfl (Or.inr (Or.inr (Or.inr (Or.inr ⟨rfl, rfl, rfl⟩)))) (hb hby d2_14) hr
  · exact ⟨a1, a5, rfl, N11, Kc11, ge1, lt5_a1, Ea11, Fa11_bytes, E14, V15⟩
theorem d3_0 : decode prog_42_method_4_code 0 = .ok (.aload_n 0, 1) := by decide +kernel
theorem d3_1 : decode prog_42_method_4_code 1 = .ok (.getfield 7, 3) := by decide +kernel
theorem d3_4 : decode prog_42_method_4_code 4 = .ok (.arraylength, 1) := by decide +kernel
theorem d3_5 : decode prog_42_method_4_code 5 = .ok (.ireturn, 1) := by decide +kernel
theorem pn_3 : plainName "com/example/cicada/cicada/core/Payload" = true := by first | (simp [plainName, overriddenIn]; done) | decide +kernel
theorem ef_3 (m : MethodId) (x0 : Addr) : entryFrame m #[(.ref x0)] 1 = mkF m 0 #[.val (.ref x0)] [] := by first | (simp [entryFrame, mkF, argsToLocals, Value.category]; done) | rfl
def Q3 (Z : State) (b1 q1 : Addr) (k1 : ClassId) (z1 : Int32) (vs1 : List Value) (h0 : Heap) (n0 : Nat) (v : Option Value) (h : Heap) (L : List Loc) : Prop := v = some (.int z1) ∧ Fr n0 L ∧ h = h0
set_option maxRecDepth 65536 in
set_option maxHeartbeats 40000000 in
theorem rm3 (l : Launch) (Z : State) (a0 : Array Value) (hw : ∀ d ∈ tables_1, d.before a0 Z = true) (ws : List Jvm.Cond)  (b1 q1 : Addr) (k1 : ClassId) (z1 : Int32) (vs1 : List Value) (h0 : Heap) (n0 : Nat) (Z0 : n0 ≤ h0.size) (F_b1 : Fld Z h0 b1 "com/example/cicada/cicada/core/Payload" "bytes" "[B" (.ref q1)) (V_q1 : Arv Z h0 q1 k1 .byte z1 vs1 (.int 0)) :
    MetFree l (⟨"com/example/cicada/cicada/core/Payload", "size", "()I"⟩ : MethodName) (head1 (Jvm.Cond.code (⟨"com/example/cicada/cicada/core/Payload", "size", "()I"⟩ : MethodName) prog_42_method_4_code 1 (some .int) :: ws) ({ frames := 0, cells := 0, slots := 0, locals := 0 } : Room)) (fun a U => a = #[(.ref b1)] ∧ Z.Warmed39 U.vm ∧ U.heap = h0) (fun _ _ _ _ _ => True) (fun _ U o U' => ∃ v L, o = .returned v ∧ Q3 Z b1 q1 k1 z1 vs1 h0 n0 v U'.heap L ∧ FrameEnd U o U' L ({ frames := 0, cells := 0, slots := 0, locals := 0 } : Room).cells ({ frames := 0, cells := 0, slots := 0, locals := 0 } : Room).slots) := by
  refine MetFree.of_bodySF (plainFor_of_name pn_3) hisR ?_
  intro p e s m args below meth c s₁ Bd hml0 hP hK
  obtain ⟨rfl, hZ, hh⟩ := hP
  have hx := Bd.exec
  have hby := Bd.bytes
  have hml : c.maxLocals = 1 := hml0
  have hown : s.vm.findClass "com/example/cicada/cicada/core/Payload" = some m.cls := findClass_of_methodNamed Bd.named
  have hnm := (name_of_methodNamed Bd.named Bd.method).1
  have X0 : Stand p l e ({ frames := 0, cells := 0, slots := 0, locals := 0 } : Room) s m #[(.ref b1)] below meth c s₁ [] 0 0 := Stand.of_body Bd
  have e0 : s₁.heap = h0 := by rw [← hh, Bd.state]; rfl
  have N0 := Fr.nil n0
  show own_Go p e below s (Q3 Z b1 q1 k1 z1 vs1 h0 n0) ({ frames := 0, cells := 0, slots := 0, locals := 0 } : Room).cells ({ frames := 0, cells := 0, slots := 0, locals := 0 } : Room).slots (s₁.setTop (entryFrame m #[(.ref b1)] 1))
  refine own_go (b := s₁.setTop (mkF m 0 #[.val (.ref b1)] [])) (fun t k => castTop (ef_3 m b1) k) ?_
  obtain ⟨T1, X1, e1, st1⟩ := getF X0 hx hZ hown (host := "") (Or.inl (hw _ (List.mem_of_getElem? (i := 23) rfl))) Via.refl e0 F_b1 (g := (mkF m 1 #[.val (.ref b1)] [(.ref b1)])) rfl rfl (hb hby d3_1)
  obtain ⟨cl2, Ar2, q2, S2, M2, H2, U2⟩ := id V_q1
  refine own_end X1 Bd.notSynchronized (v := some (.int z1)) (fun h => by rw [Bd.returns] at h; cases h) (fun fs hr => ?_) e1 ?_ (by decide) (by decide)
  · show Steps p.tables e below (s₁.setTop (mkF m 0 #[.val (.ref b1)] [])) _
    refine XS.aloadN X0.here hx rfl (hb hby d3_0) rfl rfl ?_
    show Steps p.tables e below (s₁.setTop (mkF m 1 #[.val (.ref b1)] [(.ref b1)])) _
    refine st1 _ ?_
    show Steps p.tables e below (T1.setTop (mkF m 4 #[.val (.ref b1)] [(.ref q1)])) _
    refine X1.arraylength hx (cell := cl2) (by rw [e1]; exact Ar2.1) (State.isArrayOf_alike hZ.alike Ar2.2.1) (g := (mkF m 4 #[.val (.ref b1)] [(.ref q1)])) rfl (rest := []) rfl (hb hby d3_4) _ ?_
    rw [len_of S2 M2]
    show Steps p.tables e below (T1.setTop (mkF m 5 #[.val (.ref b1)] [(.int z1)])) _
    exact retI X1 hx Bd.returns (hb hby d3_5) hr
  · exact ⟨rfl, N0, rfl⟩
theorem d4_0 : decode prog_42_method_3_code 0 = .ok (.aload_n 0, 1) := by decide +kernel
theorem d4_1 : decode prog_42_method_3_code 1 = .ok (.getfield 7, 3) := by decide +kernel
theorem d4_4 : decode prog_42_method_3_code 4 = .ok (.invokevirtual 13, 3) := by decide +kernel
theorem d4_7 : decode prog_42_method_3_code 7 = .ok (.checkcast 14, 3) := by decide +kernel
theorem d4_10 : decode prog_42_method_3_code 10 = .ok (.areturn, 1) := by decide +kernel
theorem pn_4 : plainName "com/example/cicada/cicada/core/Payload" = true := by first | (simp [plainName, overriddenIn]; done) | decide +kernel
theorem ef_4 (m : MethodId) (x0 : Addr) : entryFrame m #[(.ref x0)] 1 = mkF m 0 #[.val (.ref x0)] [] := by first | (simp [entryFrame, mkF, argsToLocals, Value.category]; done) | rfl
def Q4 (Z : State) (b1 q1 : Addr) (k1 : ClassId) (z1 : Int32) (vs1 : List Value) (h0 : Heap) (n0 : Nat) (v : Option Value) (h : Heap) (L : List Loc) : Prop := ∃ (r : Addr), v = some (.ref r) ∧ Fr n0 L ∧ Keep h0 h [] ∧ h0.size ≤ r ∧ Exa Z h r "[B" ∧ Arv Z h r k1 .byte z1 vs1 (.int 0)
set_option maxRecDepth 65536 in
set_option maxHeartbeats 40000000 in
theorem rm4 (l : Launch) (Z : State) (a0 : Array Value) (hw : ∀ d ∈ tables_1, d.before a0 Z = true) (ws : List Jvm.Cond)  (b1 q1 : Addr) (k1 : ClassId) (z1 : Int32) (vs1 : List Value) (h0 : Heap) (n0 : Nat) (Z0 : n0 ≤ h0.size) (F_b1 : Fld Z h0 b1 "com/example/cicada/cicada/core/Payload" "bytes" "[B" (.ref q1)) (V_q1 : Arv Z h0 q1 k1 .byte z1 vs1 (.int 0)) (E_q1 : Exa Z h0 q1 "[B") (hcap : z1.toNatClampNeg ≤ 4) :
    MetFree l (⟨"com/example/cicada/cicada/core/Payload", "bytes", "()[B"⟩ : MethodName) (head1 (Jvm.Cond.code (⟨"com/example/cicada/cicada/core/Payload", "bytes", "()[B"⟩ : MethodName) prog_42_method_3_code 1 (some (.array .byte)) :: ws) ({ frames := 1, cells := 1, slots := 4, locals := 20 } : Room)) (fun a U => a = #[(.ref b1)] ∧ Z.Warmed39 U.vm ∧ U.heap = h0) (fun _ _ _ _ _ => True) (fun _ U o U' => ∃ v L, o = .returned v ∧ Q4 Z b1 q1 k1 z1 vs1 h0 n0 v U'.heap L ∧ FrameEnd U o U' L ({ frames := 1, cells := 1, slots := 4, locals := 20 } : Room).cells ({ frames := 1, cells := 1, slots := 4, locals := 20 } : Room).slots) := by
  refine MetFree.of_bodySF (plainFor_of_name pn_4) hisR ?_
  intro p e s m args below meth c s₁ Bd hml0 hP hK
  obtain ⟨rfl, hZ, hh⟩ := hP
  have hx := Bd.exec
  have hby := Bd.bytes
  have hml : c.maxLocals = 1 := hml0
  have hown : s.vm.findClass "com/example/cicada/cicada/core/Payload" = some m.cls := findClass_of_methodNamed Bd.named
  have hnm := (name_of_methodNamed Bd.named Bd.method).1
  have X0 : Stand p l e ({ frames := 1, cells := 1, slots := 4, locals := 20 } : Room) s m #[(.ref b1)] below meth c s₁ [] 0 0 := Stand.of_body Bd
  have e0 : s₁.heap = h0 := by rw [← hh, Bd.state]; rfl
  have N0 := Fr.nil n0
  show own_Go p e below s (Q4 Z b1 q1 k1 z1 vs1 h0 n0) ({ frames := 1, cells := 1, slots := 4, locals := 20 } : Room).cells ({ frames := 1, cells := 1, slots := 4, locals := 20 } : Room).slots (s₁.setTop (entryFrame m #[(.ref b1)] 1))
  refine own_go (b := s₁.setTop (mkF m 0 #[.val (.ref b1)] [])) (fun t k => castTop (ef_4 m b1) k) ?_
  have K0 := Keep.refl h0 []
  obtain ⟨T1, X1, e1, st1⟩ := getF X0 hx hZ hown (host := "") (Or.inl (hw _ (List.mem_of_getElem? (i := 23) rfl))) Via.refl e0 F_b1 (g := (mkF m 1 #[.val (.ref b1)] [(.ref b1)])) rfl rfl (hb hby d4_1)
  obtain ⟨T2, h2, X2, e2, E2, A2, B2, st2⟩ := cloneH X1 hx hZ hown (hw _ (List.mem_of_getElem? (i := 8) rfl)) (hw _ (List.mem_of_getElem? (i := 9) rfl)) (hw _ (List.mem_of_getElem? (i := 13) rfl)) (hw _ (List.mem_of_getElem? (i := 11) rfl)) (hw _ (List.mem_of_getElem? (i := 12) rfl)) (hw _ (List.mem_of_getElem? (i := 14) rfl)) e1 V_q1.arh E_q1 (g := (mkF m 4 #[.val (.ref b1)] [(.ref q1)])) rfl (by rw [hml]; rfl) (rest := []) rfl (hb hby d4_4) (by decide) (W := 0) (cap := 4) (by show 2 * 0 + _ ≤ _; exact Nat.le_of_eq rfl) (by decide) hcap (by decide) (by decide)
  obtain ⟨a2, ga2⟩ : ∃ z, z = h0.size := ⟨_, rfl⟩
  rw [← ga2] at A2 B2 st2
  have lt2_q1 : q1 < a2 := by rw [ga2]; exact V_q1.lt
  have ge2 : h0.size ≤ a2 := Nat.le_trans K0.1 (Nat.le_of_eq ga2.symm)
  have K2 := K0.ext E2
  have F3 := F_b1.ext E2
  have V4 := V_q1.ext E2
  have E5 := E_q1.ext E2
  have lo2 : n0 ≤ a2 := Nat.le_trans Z0 (Nat.le_of_eq ga2.symm)
  have Z2 : n0 ≤ h2.size := Nat.le_trans Z0 E2.1
  obtain ⟨T6, X6, e6, st6⟩ := castY X2 hx hZ hown (hw _ (List.mem_of_getElem? (i := 15) rfl)) e2 (Ins.self B2) (g := (mkF m 7 #[.val (.ref b1)] [(.ref a2)])) rfl rfl (hb hby d4_7)
  refine own_end X6 Bd.notSynchronized (v := some (.ref a2)) (fun h => by rw [Bd.returns] at h; cases h) (fun fs hr => ?_) e6 ?_ (by decide) (by decide)
  · show Steps p.tables e below (s₁.setTop (mkF m 0 #[.val (.ref b1)] [])) _
    refine XS.aloadN X0.here hx rfl (hb hby d4_0) rfl rfl ?_
    show Steps p.tables e below (s₁.setTop (mkF m 1 #[.val (.ref b1)] [(.ref b1)])) _
    refine st1 _ ?_
    show Steps p.tables e below (T1.setTop (mkF m 4 #[.val (.ref b1)] [(.ref q1)])) _
    refine st2 _ ?_
    show Steps p.tables e below (T2.setTop (mkF m 7 #[.val (.ref b1)] [(.ref a2)])) _
    refine st6 _ ?_
    show Steps p.tables e below (T6.setTop (mkF m 10 #[.val (.ref b1)] [(.ref a2)])) _
    exact retOut X6 hx Bd.returns rfl (Or.inr (Or.inr (Or.inr (Or.inr ⟨rfl, rfl, rfl⟩)))) (hb hby d4_10) hr
  · exact ⟨a2, rfl, N0, K2, ge2, B2, A2⟩
theorem own_rd {z u k : Int32} (h : z = u) (hk : k < u) (k0 : ¬ k < 0) : ¬ k < 0 ∧ k.toNatClampNeg < z.toNatClampNeg := by
  refine ⟨k0, ?_⟩
  subst h
  rw [Int32.lt_iff_toInt_lt] at hk k0
  have e : (0 : Int32).toInt = 0 := rfl
  show k.toInt.toNat < z.toInt.toNat
  omega
def own_same_56 (f_b1 : Nat → Int32) (z_b1 : Int32) (u1 : Int32) (u2 : Int32) (u3 : Int32) (u4 : Int32) (u5 : Int32)  : Int32 :=
  if (3 : Int32) < u1 then
    if (f_b1 (3 : Int32).toNatClampNeg) = u5 then
      (1 : Int32)
    else
      (0 : Int32)
  else
    (1 : Int32)
def own_same_41 (f_b1 : Nat → Int32) (z_b1 : Int32) (u1 : Int32) (u2 : Int32) (u3 : Int32) (u4 : Int32) (u5 : Int32)  : Int32 :=
  if (2 : Int32) < u1 then
    if (f_b1 (2 : Int32).toNatClampNeg) = u4 then
      own_same_56 f_b1 z_b1 u1 u2 u3 u4 u5 
    else
      (0 : Int32)
  else
    own_same_56 f_b1 z_b1 u1 u2 u3 u4 u5 
def own_same_27 (f_b1 : Nat → Int32) (z_b1 : Int32) (u1 : Int32) (u2 : Int32) (u3 : Int32) (u4 : Int32) (u5 : Int32)  : Int32 :=
  if (1 : Int32) < u1 then
    if (f_b1 (1 : Int32).toNatClampNeg) = u3 then
      own_same_41 f_b1 z_b1 u1 u2 u3 u4 u5 
    else
      (0 : Int32)
  else
    own_same_41 f_b1 z_b1 u1 u2 u3 u4 u5 
def own_same_0 (f_b1 : Nat → Int32) (z_b1 : Int32) (u1 : Int32) (u2 : Int32) (u3 : Int32) (u4 : Int32) (u5 : Int32)  : Int32 :=
  if z_b1 = u1 then
    if (0 : Int32) < u1 then
      if (f_b1 (0 : Int32).toNatClampNeg) = u2 then
        own_same_27 f_b1 z_b1 u1 u2 u3 u4 u5 
      else
        (0 : Int32)
    else
      own_same_27 f_b1 z_b1 u1 u2 u3 u4 u5 
  else
    (0 : Int32)
theorem d5_0 : decode method_2_code 0 = .ok (.aload_n 0, 1) := by decide +kernel
theorem d5_1 : decode method_2_code 1 = .ok (.ifnonnull 5, 3) := by decide +kernel
theorem d5_4 : decode method_2_code 4 = .ok (.iconst 0, 1) := by decide +kernel
theorem d5_5 : decode method_2_code 5 = .ok (.ireturn, 1) := by decide +kernel
theorem d5_6 : decode method_2_code 6 = .ok (.aload_n 0, 1) := by decide +kernel
theorem d5_7 : decode method_2_code 7 = .ok (.arraylength, 1) := by decide +kernel
theorem d5_8 : decode method_2_code 8 = .ok (.iload_n 1, 1) := by decide +kernel
theorem d5_9 : decode method_2_code 9 = .ok (.if_icmp .eq 5, 3) := by decide +kernel
theorem d5_12 : decode method_2_code 12 = .ok (.iconst 0, 1) := by decide +kernel
theorem d5_13 : decode method_2_code 13 = .ok (.ireturn, 1) := by decide +kernel
theorem d5_14 : decode method_2_code 14 = .ok (.iload_n 1, 1) := by decide +kernel
theorem d5_15 : decode method_2_code 15 = .ok (.ifCond .le 12, 3) := by decide +kernel
theorem d5_18 : decode method_2_code 18 = .ok (.aload_n 0, 1) := by decide +kernel
theorem d5_19 : decode method_2_code 19 = .ok (.iconst 0, 1) := by decide +kernel
theorem d5_20 : decode method_2_code 20 = .ok (.baload, 1) := by decide +kernel
theorem d5_21 : decode method_2_code 21 = .ok (.iload_n 2, 1) := by decide +kernel
theorem d5_22 : decode method_2_code 22 = .ok (.if_icmp .eq 5, 3) := by decide +kernel
theorem d5_25 : decode method_2_code 25 = .ok (.iconst 0, 1) := by decide +kernel
theorem d5_26 : decode method_2_code 26 = .ok (.ireturn, 1) := by decide +kernel
theorem d5_27 : decode method_2_code 27 = .ok (.iload_n 1, 1) := by decide +kernel
theorem d5_28 : decode method_2_code 28 = .ok (.iconst 1, 1) := by decide +kernel
theorem d5_29 : decode method_2_code 29 = .ok (.if_icmp .le 12, 3) := by decide +kernel
theorem d5_32 : decode method_2_code 32 = .ok (.aload_n 0, 1) := by decide +kernel
theorem d5_33 : decode method_2_code 33 = .ok (.iconst 1, 1) := by decide +kernel
theorem d5_34 : decode method_2_code 34 = .ok (.baload, 1) := by decide +kernel
theorem d5_35 : decode method_2_code 35 = .ok (.iload_n 3, 1) := by decide +kernel
theorem d5_36 : decode method_2_code 36 = .ok (.if_icmp .eq 5, 3) := by decide +kernel
theorem d5_39 : decode method_2_code 39 = .ok (.iconst 0, 1) := by decide +kernel
theorem d5_40 : decode method_2_code 40 = .ok (.ireturn, 1) := by decide +kernel
theorem d5_41 : decode method_2_code 41 = .ok (.iload_n 1, 1) := by decide +kernel
theorem d5_42 : decode method_2_code 42 = .ok (.iconst 2, 1) := by decide +kernel
theorem d5_43 : decode method_2_code 43 = .ok (.if_icmp .le 13, 3) := by decide +kernel
theorem d5_46 : decode method_2_code 46 = .ok (.aload_n 0, 1) := by decide +kernel
theorem d5_47 : decode method_2_code 47 = .ok (.iconst 2, 1) := by decide +kernel
theorem d5_48 : decode method_2_code 48 = .ok (.baload, 1) := by decide +kernel
theorem d5_49 : decode method_2_code 49 = .ok (.iload 4, 2) := by decide +kernel
theorem d5_51 : decode method_2_code 51 = .ok (.if_icmp .eq 5, 3) := by decide +kernel
theorem d5_54 : decode method_2_code 54 = .ok (.iconst 0, 1) := by decide +kernel
theorem d5_55 : decode method_2_code 55 = .ok (.ireturn, 1) := by decide +kernel
theorem d5_56 : decode method_2_code 56 = .ok (.iload_n 1, 1) := by decide +kernel
theorem d5_57 : decode method_2_code 57 = .ok (.iconst 3, 1) := by decide +kernel
theorem d5_58 : decode method_2_code 58 = .ok (.if_icmp .le 13, 3) := by decide +kernel
theorem d5_61 : decode method_2_code 61 = .ok (.aload_n 0, 1) := by decide +kernel
theorem d5_62 : decode method_2_code 62 = .ok (.iconst 3, 1) := by decide +kernel
theorem d5_63 : decode method_2_code 63 = .ok (.baload, 1) := by decide +kernel
theorem d5_64 : decode method_2_code 64 = .ok (.iload 5, 2) := by decide +kernel
theorem d5_66 : decode method_2_code 66 = .ok (.if_icmp .eq 5, 3) := by decide +kernel
theorem d5_69 : decode method_2_code 69 = .ok (.iconst 0, 1) := by decide +kernel
theorem d5_70 : decode method_2_code 70 = .ok (.ireturn, 1) := by decide +kernel
theorem d5_71 : decode method_2_code 71 = .ok (.iconst 1, 1) := by decide +kernel
theorem d5_72 : decode method_2_code 72 = .ok (.ireturn, 1) := by decide +kernel
theorem pn_5 : plainName "com/example/cicada/cicada/core/PayloadOfPinLaw" = true := by first | (simp [plainName, overriddenIn]; done) | decide +kernel
theorem ef_5 (m : MethodId) (x0 : Addr) (x1 : Int32) (x2 : Int32) (x3 : Int32) (x4 : Int32) (x5 : Int32) : entryFrame m #[(.ref x0), (.int x1), (.int x2), (.int x3), (.int x4), (.int x5)] 6 = mkF m 0 #[.val (.ref x0), .val (.int x1), .val (.int x2), .val (.int x3), .val (.int x4), .val (.int x5)] [] := by first | (simp [entryFrame, mkF, argsToLocals, Value.category]; done) | rfl
def Q5 (b1 : Addr) (cl_b1 : Cell) (f_b1 : Nat → Int32) (z_b1 : Int32) (u1 : Int32) (u2 : Int32) (u3 : Int32) (u4 : Int32) (u5 : Int32) (h0 : Heap) (n0 : Nat) (v : Option Value) (h : Heap) (L : List Loc) : Prop := v = some (.int (own_same_0 f_b1 z_b1 u1 u2 u3 u4 u5)) ∧ Fr n0 L ∧ h = h0
set_option maxRecDepth 65536 in
set_option maxHeartbeats 40000000 in
theorem rm5 (l : Launch) (Z : State) (a0 : Array Value) (hw : ∀ d ∈ tables_1, d.before a0 Z = true) (ws : List Jvm.Cond) (b1 : Addr) (cl_b1 : Cell) (f_b1 : Nat → Int32) (z_b1 : Int32) (u1 : Int32) (u2 : Int32) (u3 : Int32) (u4 : Int32) (u5 : Int32) (h0 : Heap) (n0 : Nat) (Z0 : n0 ≤ h0.size) (Ar_b1 : Arr Z h0 b1 cl_b1 .byte) (S_b1 : cl_b1.slots.size = z_b1.toNatClampNeg) (M_b1 : ¬ z_b1 < 0) (H_b1 : ∀ i, i < z_b1.toNatClampNeg → cl_b1.slots[i]? = some (.int (f_b1 i)))  :
    MetFree l (⟨"com/example/cicada/cicada/core/PayloadOfPinLaw", "same", "([BIBBBB)Z"⟩ : MethodName) (head1 (Jvm.Cond.code (⟨"com/example/cicada/cicada/core/PayloadOfPinLaw", "same", "([BIBBBB)Z"⟩ : MethodName) method_2_code 6 (some .boolean) :: ws) ({ frames := 0, cells := 0, slots := 0, locals := 0 } : Room)) (fun a U => a = #[(.ref b1), (.int u1), (.int u2), (.int u3), (.int u4), (.int u5)] ∧ Z.Warmed39 U.vm ∧ U.heap = h0) (fun _ _ _ _ _ => True) (fun _ U o U' => ∃ v L, o = .returned v ∧ Q5 b1 cl_b1 f_b1 z_b1 u1 u2 u3 u4 u5 h0 n0 v U'.heap L ∧ FrameEnd U o U' L ({ frames := 0, cells := 0, slots := 0, locals := 0 } : Room).cells ({ frames := 0, cells := 0, slots := 0, locals := 0 } : Room).slots) := by
  refine MetFree.of_bodySF (plainFor_of_name pn_5) hisR ?_
  intro p e s m args below meth c s₁ Bd hml0 hP hK
  obtain ⟨rfl, hZ, hh⟩ := hP
  have hx := Bd.exec
  have hby := Bd.bytes
  have hml : c.maxLocals = 6 := hml0
  have hown : s.vm.findClass "com/example/cicada/cicada/core/PayloadOfPinLaw" = some m.cls := findClass_of_methodNamed Bd.named
  have hnm := (name_of_methodNamed Bd.named Bd.method).1
  have X0 : Stand p l e ({ frames := 0, cells := 0, slots := 0, locals := 0 } : Room) s m #[(.ref b1), (.int u1), (.int u2), (.int u3), (.int u4), (.int u5)] below meth c s₁ [] 0 0 := Stand.of_body Bd
  have e0 : s₁.heap = h0 := by rw [← hh, Bd.state]; rfl
  have N0 := Fr.nil n0
  show own_Go p e below s (Q5 b1 cl_b1 f_b1 z_b1 u1 u2 u3 u4 u5 h0 n0) ({ frames := 0, cells := 0, slots := 0, locals := 0 } : Room).cells ({ frames := 0, cells := 0, slots := 0, locals := 0 } : Room).slots (s₁.setTop (entryFrame m #[(.ref b1), (.int u1), (.int u2), (.int u3), (.int u4), (.int u5)] 6))
  refine own_go (b := s₁.setTop (mkF m 0 #[.val (.ref b1), .val (.int u1), .val (.int u2), .val (.int u3), .val (.int u4), .val (.int u5)] [])) (fun t k => castTop (ef_5 m b1 u1 u2 u3 u4 u5) k) ?_
  have J56 : ∀ (T : State) (lc : List Loc), Stand p l e ({ frames := 0, cells := 0, slots := 0, locals := 0 } : Room) s m #[(.ref b1), (.int u1), (.int u2), (.int u3), (.int u4), (.int u5)] below meth c T lc 0 0 → Fr n0 lc → T.heap = h0 → z_b1 = u1 → own_same_0 f_b1 z_b1 u1 u2 u3 u4 u5 = own_same_56 f_b1 z_b1 u1 u2 u3 u4 u5  → own_Go p e below s (Q5 b1 cl_b1 f_b1 z_b1 u1 u2 u3 u4 u5 h0 n0) ({ frames := 0, cells := 0, slots := 0, locals := 0 } : Room).cells ({ frames := 0, cells := 0, slots := 0, locals := 0 } : Room).slots (T.setTop (mkF m 56 #[.val (.ref b1), .val (.int u1), .val (.int u2), .val (.int u3), .val (.int u4), .val (.int u5)] [])) := by
    intro T lc X N eT   hz hv
    refine own_go (b := T.setTop (mkF m 58 #[.val (.ref b1), .val (.int u1), .val (.int u2), .val (.int u3), .val (.int u4), .val (.int u5)] [(.int (3 : Int32)), (.int u1)])) (fun t k => ?_) ?_
    · show Steps p.tables e below (T.setTop (mkF m 56 #[.val (.ref b1), .val (.int u1), .val (.int u2), .val (.int u3), .val (.int u4), .val (.int u5)] [])) _
      refine XS.iloadN X.here hx rfl (hb hby d5_56) rfl ?_
      show Steps p.tables e below (T.setTop (mkF m 57 #[.val (.ref b1), .val (.int u1), .val (.int u2), .val (.int u3), .val (.int u4), .val (.int u5)] [(.int u1)])) _
      refine XS.iconst X.here hx rfl (hb hby d5_57) ?_
      show Steps p.tables e below (T.setTop (mkF m 58 #[.val (.ref b1), .val (.int u1), .val (.int u2), .val (.int u3), .val (.int u4), .val (.int u5)] [(.int (3 : Int32)), (.int u1)])) _
      exact k
    by_cases hc58 : (3 : Int32) < u1
    · have hi1 : ¬ (3 : Int32) < 0 ∧ (3 : Int32).toNatClampNeg < z_b1.toNatClampNeg := own_rd (by assumption) hc58 (by decide)
      refine own_go (b := T.setTop (mkF m 66 #[.val (.ref b1), .val (.int u1), .val (.int u2), .val (.int u3), .val (.int u4), .val (.int u5)] [(.int u5), (.int (f_b1 (3 : Int32).toNatClampNeg))])) (fun t k => ?_) ?_
      · show Steps p.tables e below (T.setTop (mkF m 58 #[.val (.ref b1), .val (.int u1), .val (.int u2), .val (.int u3), .val (.int u4), .val (.int u5)] [(.int (3 : Int32)), (.int u1)])) _
        refine XS.icmpNo X.here hx rfl (hb hby d5_58) rfl (tlt hc58).2.2.2 ?_
        show Steps p.tables e below (T.setTop (mkF m 61 #[.val (.ref b1), .val (.int u1), .val (.int u2), .val (.int u3), .val (.int u4), .val (.int u5)] [])) _
        refine XS.aloadN X.here hx rfl (hb hby d5_61) rfl rfl ?_
        show Steps p.tables e below (T.setTop (mkF m 62 #[.val (.ref b1), .val (.int u1), .val (.int u2), .val (.int u3), .val (.int u4), .val (.int u5)] [(.ref b1)])) _
        refine XS.iconst X.here hx rfl (hb hby d5_62) ?_
        show Steps p.tables e below (T.setTop (mkF m 63 #[.val (.ref b1), .val (.int u1), .val (.int u2), .val (.int u3), .val (.int u4), .val (.int u5)] [(.int (3 : Int32)), (.ref b1)])) _
        refine X.baloadBytes hx (j := (3 : Int32)) (v := (.int (f_b1 (3 : Int32).toNatClampNeg))) (by rw [eT]; exact Ar_b1.1) (State.isArrayOf_alike hZ.alike Ar_b1.2.1) Ar_b1.2.2 (own_hin S_b1 hi1) (H_b1 _ hi1.2) (g := (mkF m 63 #[.val (.ref b1), .val (.int u1), .val (.int u2), .val (.int u3), .val (.int u4), .val (.int u5)] [(.int (3 : Int32)), (.ref b1)])) rfl rfl (hb hby d5_63) _ ?_
        show Steps p.tables e below (T.setTop (mkF m 64 #[.val (.ref b1), .val (.int u1), .val (.int u2), .val (.int u3), .val (.int u4), .val (.int u5)] [(.int (f_b1 (3 : Int32).toNatClampNeg))])) _
        refine XS.iload X.here hx rfl (hb hby d5_64) rfl ?_
        show Steps p.tables e below (T.setTop (mkF m 66 #[.val (.ref b1), .val (.int u1), .val (.int u2), .val (.int u3), .val (.int u4), .val (.int u5)] [(.int u5), (.int (f_b1 (3 : Int32).toNatClampNeg))])) _
        exact k
      by_cases hc66 : (f_b1 (3 : Int32).toNatClampNeg) = u5
      · refine own_end X Bd.notSynchronized (v := some (.int (1 : Int32))) (fun h => by rw [Bd.returns] at h; cases h) (fun fs hr => ?_) eT ?_ (by decide) (by decide)
        · show Steps p.tables e below (T.setTop (mkF m 66 #[.val (.ref b1), .val (.int u1), .val (.int u2), .val (.int u3), .val (.int u4), .val (.int u5)] [(.int u5), (.int (f_b1 (3 : Int32).toNatClampNeg))])) _
          refine XS.icmpYes X.here hx rfl (pc0 := 66) (pc' := 71) rfl (hb hby d5_66) rfl (teq hc66).1 (by decide) (by decide) ?_
          show Steps p.tables e below (T.setTop (mkF m 71 #[.val (.ref b1), .val (.int u1), .val (.int u2), .val (.int u3), .val (.int u4), .val (.int u5)] [])) _
          refine XS.iconst X.here hx rfl (hb hby d5_71) ?_
          show Steps p.tables e below (T.setTop (mkF m 72 #[.val (.ref b1), .val (.int u1), .val (.int u2), .val (.int u3), .val (.int u4), .val (.int u5)] [(.int (1 : Int32))])) _
          exact retN X hx (t := .boolean) Bd.returns (by simp) (hb hby d5_72) hr
        · exact ⟨by rw [hv, own_same_56, if_pos hc58, if_pos hc66], N, rfl⟩
      · refine own_end X Bd.notSynchronized (v := some (.int (0 : Int32))) (fun h => by rw [Bd.returns] at h; cases h) (fun fs hr => ?_) eT ?_ (by decide) (by decide)
        · show Steps p.tables e below (T.setTop (mkF m 66 #[.val (.ref b1), .val (.int u1), .val (.int u2), .val (.int u3), .val (.int u4), .val (.int u5)] [(.int u5), (.int (f_b1 (3 : Int32).toNatClampNeg))])) _
          refine XS.icmpNo X.here hx rfl (hb hby d5_66) rfl (feq hc66).1 ?_
          show Steps p.tables e below (T.setTop (mkF m 69 #[.val (.ref b1), .val (.int u1), .val (.int u2), .val (.int u3), .val (.int u4), .val (.int u5)] [])) _
          refine XS.iconst X.here hx rfl (hb hby d5_69) ?_
          show Steps p.tables e below (T.setTop (mkF m 70 #[.val (.ref b1), .val (.int u1), .val (.int u2), .val (.int u3), .val (.int u4), .val (.int u5)] [(.int (0 : Int32))])) _
          exact retN X hx (t := .boolean) Bd.returns (by simp) (hb hby d5_70) hr
        · exact ⟨by rw [hv, own_same_56, if_pos hc58, if_neg hc66], N, rfl⟩
    · refine own_end X Bd.notSynchronized (v := some (.int (1 : Int32))) (fun h => by rw [Bd.returns] at h; cases h) (fun fs hr => ?_) eT ?_ (by decide) (by decide)
      · show Steps p.tables e below (T.setTop (mkF m 58 #[.val (.ref b1), .val (.int u1), .val (.int u2), .val (.int u3), .val (.int u4), .val (.int u5)] [(.int (3 : Int32)), (.int u1)])) _
        refine XS.icmpYes X.here hx rfl (pc0 := 58) (pc' := 71) rfl (hb hby d5_58) rfl (flt hc58).2.2.2 (by decide) (by decide) ?_
        show Steps p.tables e below (T.setTop (mkF m 71 #[.val (.ref b1), .val (.int u1), .val (.int u2), .val (.int u3), .val (.int u4), .val (.int u5)] [])) _
        refine XS.iconst X.here hx rfl (hb hby d5_71) ?_
        show Steps p.tables e below (T.setTop (mkF m 72 #[.val (.ref b1), .val (.int u1), .val (.int u2), .val (.int u3), .val (.int u4), .val (.int u5)] [(.int (1 : Int32))])) _
        exact retN X hx (t := .boolean) Bd.returns (by simp) (hb hby d5_72) hr
      · exact ⟨by rw [hv, own_same_56, if_neg hc58], N, rfl⟩
  have J41 : ∀ (T : State) (lc : List Loc), Stand p l e ({ frames := 0, cells := 0, slots := 0, locals := 0 } : Room) s m #[(.ref b1), (.int u1), (.int u2), (.int u3), (.int u4), (.int u5)] below meth c T lc 0 0 → Fr n0 lc → T.heap = h0 → z_b1 = u1 → own_same_0 f_b1 z_b1 u1 u2 u3 u4 u5 = own_same_41 f_b1 z_b1 u1 u2 u3 u4 u5  → own_Go p e below s (Q5 b1 cl_b1 f_b1 z_b1 u1 u2 u3 u4 u5 h0 n0) ({ frames := 0, cells := 0, slots := 0, locals := 0 } : Room).cells ({ frames := 0, cells := 0, slots := 0, locals := 0 } : Room).slots (T.setTop (mkF m 41 #[.val (.ref b1), .val (.int u1), .val (.int u2), .val (.int u3), .val (.int u4), .val (.int u5)] [])) := by
    intro T lc X N eT   hz hv
    refine own_go (b := T.setTop (mkF m 43 #[.val (.ref b1), .val (.int u1), .val (.int u2), .val (.int u3), .val (.int u4), .val (.int u5)] [(.int (2 : Int32)), (.int u1)])) (fun t k => ?_) ?_
    · show Steps p.tables e below (T.setTop (mkF m 41 #[.val (.ref b1), .val (.int u1), .val (.int u2), .val (.int u3), .val (.int u4), .val (.int u5)] [])) _
      refine XS.iloadN X.here hx rfl (hb hby d5_41) rfl ?_
      show Steps p.tables e below (T.setTop (mkF m 42 #[.val (.ref b1), .val (.int u1), .val (.int u2), .val (.int u3), .val (.int u4), .val (.int u5)] [(.int u1)])) _
      refine XS.iconst X.here hx rfl (hb hby d5_42) ?_
      show Steps p.tables e below (T.setTop (mkF m 43 #[.val (.ref b1), .val (.int u1), .val (.int u2), .val (.int u3), .val (.int u4), .val (.int u5)] [(.int (2 : Int32)), (.int u1)])) _
      exact k
    by_cases hc43 : (2 : Int32) < u1
    · have hi2 : ¬ (2 : Int32) < 0 ∧ (2 : Int32).toNatClampNeg < z_b1.toNatClampNeg := own_rd (by assumption) hc43 (by decide)
      refine own_go (b := T.setTop (mkF m 51 #[.val (.ref b1), .val (.int u1), .val (.int u2), .val (.int u3), .val (.int u4), .val (.int u5)] [(.int u4), (.int (f_b1 (2 : Int32).toNatClampNeg))])) (fun t k => ?_) ?_
      · show Steps p.tables e below (T.setTop (mkF m 43 #[.val (.ref b1), .val (.int u1), .val (.int u2), .val (.int u3), .val (.int u4), .val (.int u5)] [(.int (2 : Int32)), (.int u1)])) _
        refine XS.icmpNo X.here hx rfl (hb hby d5_43) rfl (tlt hc43).2.2.2 ?_
        show Steps p.tables e below (T.setTop (mkF m 46 #[.val (.ref b1), .val (.int u1), .val (.int u2), .val (.int u3), .val (.int u4), .val (.int u5)] [])) _
        refine XS.aloadN X.here hx rfl (hb hby d5_46) rfl rfl ?_
        show Steps p.tables e below (T.setTop (mkF m 47 #[.val (.ref b1), .val (.int u1), .val (.int u2), .val (.int u3), .val (.int u4), .val (.int u5)] [(.ref b1)])) _
        refine XS.iconst X.here hx rfl (hb hby d5_47) ?_
        show Steps p.tables e below (T.setTop (mkF m 48 #[.val (.ref b1), .val (.int u1), .val (.int u2), .val (.int u3), .val (.int u4), .val (.int u5)] [(.int (2 : Int32)), (.ref b1)])) _
        refine X.baloadBytes hx (j := (2 : Int32)) (v := (.int (f_b1 (2 : Int32).toNatClampNeg))) (by rw [eT]; exact Ar_b1.1) (State.isArrayOf_alike hZ.alike Ar_b1.2.1) Ar_b1.2.2 (own_hin S_b1 hi2) (H_b1 _ hi2.2) (g := (mkF m 48 #[.val (.ref b1), .val (.int u1), .val (.int u2), .val (.int u3), .val (.int u4), .val (.int u5)] [(.int (2 : Int32)), (.ref b1)])) rfl rfl (hb hby d5_48) _ ?_
        show Steps p.tables e below (T.setTop (mkF m 49 #[.val (.ref b1), .val (.int u1), .val (.int u2), .val (.int u3), .val (.int u4), .val (.int u5)] [(.int (f_b1 (2 : Int32).toNatClampNeg))])) _
        refine XS.iload X.here hx rfl (hb hby d5_49) rfl ?_
        show Steps p.tables e below (T.setTop (mkF m 51 #[.val (.ref b1), .val (.int u1), .val (.int u2), .val (.int u3), .val (.int u4), .val (.int u5)] [(.int u4), (.int (f_b1 (2 : Int32).toNatClampNeg))])) _
        exact k
      by_cases hc51 : (f_b1 (2 : Int32).toNatClampNeg) = u4
      · refine own_go (b := T.setTop (mkF m 56 #[.val (.ref b1), .val (.int u1), .val (.int u2), .val (.int u3), .val (.int u4), .val (.int u5)] [])) (fun t k => ?_) ?_
        · show Steps p.tables e below (T.setTop (mkF m 51 #[.val (.ref b1), .val (.int u1), .val (.int u2), .val (.int u3), .val (.int u4), .val (.int u5)] [(.int u4), (.int (f_b1 (2 : Int32).toNatClampNeg))])) _
          refine XS.icmpYes X.here hx rfl (pc0 := 51) (pc' := 56) rfl (hb hby d5_51) rfl (teq hc51).1 (by decide) (by decide) ?_
          show Steps p.tables e below (T.setTop (mkF m 56 #[.val (.ref b1), .val (.int u1), .val (.int u2), .val (.int u3), .val (.int u4), .val (.int u5)] [])) _
          exact k
        exact J56 T _ X N eT   (by assumption) (by rw [hv, own_same_41, if_pos hc43, if_pos hc51])
      · refine own_end X Bd.notSynchronized (v := some (.int (0 : Int32))) (fun h => by rw [Bd.returns] at h; cases h) (fun fs hr => ?_) eT ?_ (by decide) (by decide)
        · show Steps p.tables e below (T.setTop (mkF m 51 #[.val (.ref b1), .val (.int u1), .val (.int u2), .val (.int u3), .val (.int u4), .val (.int u5)] [(.int u4), (.int (f_b1 (2 : Int32).toNatClampNeg))])) _
          refine XS.icmpNo X.here hx rfl (hb hby d5_51) rfl (feq hc51).1 ?_
          show Steps p.tables e below (T.setTop (mkF m 54 #[.val (.ref b1), .val (.int u1), .val (.int u2), .val (.int u3), .val (.int u4), .val (.int u5)] [])) _
          refine XS.iconst X.here hx rfl (hb hby d5_54) ?_
          show Steps p.tables e below (T.setTop (mkF m 55 #[.val (.ref b1), .val (.int u1), .val (.int u2), .val (.int u3), .val (.int u4), .val (.int u5)] [(.int (0 : Int32))])) _
          exact retN X hx (t := .boolean) Bd.returns (by simp) (hb hby d5_55) hr
        · exact ⟨by rw [hv, own_same_41, if_pos hc43, if_neg hc51], N, rfl⟩
    · refine own_go (b := T.setTop (mkF m 56 #[.val (.ref b1), .val (.int u1), .val (.int u2), .val (.int u3), .val (.int u4), .val (.int u5)] [])) (fun t k => ?_) ?_
      · show Steps p.tables e below (T.setTop (mkF m 43 #[.val (.ref b1), .val (.int u1), .val (.int u2), .val (.int u3), .val (.int u4), .val (.int u5)] [(.int (2 : Int32)), (.int u1)])) _
        refine XS.icmpYes X.here hx rfl (pc0 := 43) (pc' := 56) rfl (hb hby d5_43) rfl (flt hc43).2.2.2 (by decide) (by decide) ?_
        show Steps p.tables e below (T.setTop (mkF m 56 #[.val (.ref b1), .val (.int u1), .val (.int u2), .val (.int u3), .val (.int u4), .val (.int u5)] [])) _
        exact k
      exact J56 T _ X N eT   (by assumption) (by rw [hv, own_same_41, if_neg hc43])
  have J27 : ∀ (T : State) (lc : List Loc), Stand p l e ({ frames := 0, cells := 0, slots := 0, locals := 0 } : Room) s m #[(.ref b1), (.int u1), (.int u2), (.int u3), (.int u4), (.int u5)] below meth c T lc 0 0 → Fr n0 lc → T.heap = h0 → z_b1 = u1 → own_same_0 f_b1 z_b1 u1 u2 u3 u4 u5 = own_same_27 f_b1 z_b1 u1 u2 u3 u4 u5  → own_Go p e below s (Q5 b1 cl_b1 f_b1 z_b1 u1 u2 u3 u4 u5 h0 n0) ({ frames := 0, cells := 0, slots := 0, locals := 0 } : Room).cells ({ frames := 0, cells := 0, slots := 0, locals := 0 } : Room).slots (T.setTop (mkF m 27 #[.val (.ref b1), .val (.int u1), .val (.int u2), .val (.int u3), .val (.int u4), .val (.int u5)] [])) := by
    intro T lc X N eT   hz hv
    refine own_go (b := T.setTop (mkF m 29 #[.val (.ref b1), .val (.int u1), .val (.int u2), .val (.int u3), .val (.int u4), .val (.int u5)] [(.int (1 : Int32)), (.int u1)])) (fun t k => ?_) ?_
    · show Steps p.tables e below (T.setTop (mkF m 27 #[.val (.ref b1), .val (.int u1), .val (.int u2), .val (.int u3), .val (.int u4), .val (.int u5)] [])) _
      refine XS.iloadN X.here hx rfl (hb hby d5_27) rfl ?_
      show Steps p.tables e below (T.setTop (mkF m 28 #[.val (.ref b1), .val (.int u1), .val (.int u2), .val (.int u3), .val (.int u4), .val (.int u5)] [(.int u1)])) _
      refine XS.iconst X.here hx rfl (hb hby d5_28) ?_
      show Steps p.tables e below (T.setTop (mkF m 29 #[.val (.ref b1), .val (.int u1), .val (.int u2), .val (.int u3), .val (.int u4), .val (.int u5)] [(.int (1 : Int32)), (.int u1)])) _
      exact k
    by_cases hc29 : (1 : Int32) < u1
    · have hi3 : ¬ (1 : Int32) < 0 ∧ (1 : Int32).toNatClampNeg < z_b1.toNatClampNeg := own_rd (by assumption) hc29 (by decide)
      refine own_go (b := T.setTop (mkF m 36 #[.val (.ref b1), .val (.int u1), .val (.int u2), .val (.int u3), .val (.int u4), .val (.int u5)] [(.int u3), (.int (f_b1 (1 : Int32).toNatClampNeg))])) (fun t k => ?_) ?_
      · show Steps p.tables e below (T.setTop (mkF m 29 #[.val (.ref b1), .val (.int u1), .val (.int u2), .val (.int u3), .val (.int u4), .val (.int u5)] [(.int (1 : Int32)), (.int u1)])) _
        refine XS.icmpNo X.here hx rfl (hb hby d5_29) rfl (tlt hc29).2.2.2 ?_
        show Steps p.tables e below (T.setTop (mkF m 32 #[.val (.ref b1), .val (.int u1), .val (.int u2), .val (.int u3), .val (.int u4), .val (.int u5)] [])) _
        refine XS.aloadN X.here hx rfl (hb hby d5_32) rfl rfl ?_
        show Steps p.tables e below (T.setTop (mkF m 33 #[.val (.ref b1), .val (.int u1), .val (.int u2), .val (.int u3), .val (.int u4), .val (.int u5)] [(.ref b1)])) _
        refine XS.iconst X.here hx rfl (hb hby d5_33) ?_
        show Steps p.tables e below (T.setTop (mkF m 34 #[.val (.ref b1), .val (.int u1), .val (.int u2), .val (.int u3), .val (.int u4), .val (.int u5)] [(.int (1 : Int32)), (.ref b1)])) _
        refine X.baloadBytes hx (j := (1 : Int32)) (v := (.int (f_b1 (1 : Int32).toNatClampNeg))) (by rw [eT]; exact Ar_b1.1) (State.isArrayOf_alike hZ.alike Ar_b1.2.1) Ar_b1.2.2 (own_hin S_b1 hi3) (H_b1 _ hi3.2) (g := (mkF m 34 #[.val (.ref b1), .val (.int u1), .val (.int u2), .val (.int u3), .val (.int u4), .val (.int u5)] [(.int (1 : Int32)), (.ref b1)])) rfl rfl (hb hby d5_34) _ ?_
        show Steps p.tables e below (T.setTop (mkF m 35 #[.val (.ref b1), .val (.int u1), .val (.int u2), .val (.int u3), .val (.int u4), .val (.int u5)] [(.int (f_b1 (1 : Int32).toNatClampNeg))])) _
        refine XS.iloadN X.here hx rfl (hb hby d5_35) rfl ?_
        show Steps p.tables e below (T.setTop (mkF m 36 #[.val (.ref b1), .val (.int u1), .val (.int u2), .val (.int u3), .val (.int u4), .val (.int u5)] [(.int u3), (.int (f_b1 (1 : Int32).toNatClampNeg))])) _
        exact k
      by_cases hc36 : (f_b1 (1 : Int32).toNatClampNeg) = u3
      · refine own_go (b := T.setTop (mkF m 41 #[.val (.ref b1), .val (.int u1), .val (.int u2), .val (.int u3), .val (.int u4), .val (.int u5)] [])) (fun t k => ?_) ?_
        · show Steps p.tables e below (T.setTop (mkF m 36 #[.val (.ref b1), .val (.int u1), .val (.int u2), .val (.int u3), .val (.int u4), .val (.int u5)] [(.int u3), (.int (f_b1 (1 : Int32).toNatClampNeg))])) _
          refine XS.icmpYes X.here hx rfl (pc0 := 36) (pc' := 41) rfl (hb hby d5_36) rfl (teq hc36).1 (by decide) (by decide) ?_
          show Steps p.tables e below (T.setTop (mkF m 41 #[.val (.ref b1), .val (.int u1), .val (.int u2), .val (.int u3), .val (.int u4), .val (.int u5)] [])) _
          exact k
        exact J41 T _ X N eT   (by assumption) (by rw [hv, own_same_27, if_pos hc29, if_pos hc36])
      · refine own_end X Bd.notSynchronized (v := some (.int (0 : Int32))) (fun h => by rw [Bd.returns] at h; cases h) (fun fs hr => ?_) eT ?_ (by decide) (by decide)
        · show Steps p.tables e below (T.setTop (mkF m 36 #[.val (.ref b1), .val (.int u1), .val (.int u2), .val (.int u3), .val (.int u4), .val (.int u5)] [(.int u3), (.int (f_b1 (1 : Int32).toNatClampNeg))])) _
          refine XS.icmpNo X.here hx rfl (hb hby d5_36) rfl (feq hc36).1 ?_
          show Steps p.tables e below (T.setTop (mkF m 39 #[.val (.ref b1), .val (.int u1), .val (.int u2), .val (.int u3), .val (.int u4), .val (.int u5)] [])) _
          refine XS.iconst X.here hx rfl (hb hby d5_39) ?_
          show Steps p.tables e below (T.setTop (mkF m 40 #[.val (.ref b1), .val (.int u1), .val (.int u2), .val (.int u3), .val (.int u4), .val (.int u5)] [(.int (0 : Int32))])) _
          exact retN X hx (t := .boolean) Bd.returns (by simp) (hb hby d5_40) hr
        · exact ⟨by rw [hv, own_same_27, if_pos hc29, if_neg hc36], N, rfl⟩
    · refine own_go (b := T.setTop (mkF m 41 #[.val (.ref b1), .val (.int u1), .val (.int u2), .val (.int u3), .val (.int u4), .val (.int u5)] [])) (fun t k => ?_) ?_
      · show Steps p.tables e below (T.setTop (mkF m 29 #[.val (.ref b1), .val (.int u1), .val (.int u2), .val (.int u3), .val (.int u4), .val (.int u5)] [(.int (1 : Int32)), (.int u1)])) _
        refine XS.icmpYes X.here hx rfl (pc0 := 29) (pc' := 41) rfl (hb hby d5_29) rfl (flt hc29).2.2.2 (by decide) (by decide) ?_
        show Steps p.tables e below (T.setTop (mkF m 41 #[.val (.ref b1), .val (.int u1), .val (.int u2), .val (.int u3), .val (.int u4), .val (.int u5)] [])) _
        exact k
      exact J41 T _ X N eT   (by assumption) (by rw [hv, own_same_27, if_neg hc29])
  refine own_go (b := s₁.setTop (mkF m 9 #[.val (.ref b1), .val (.int u1), .val (.int u2), .val (.int u3), .val (.int u4), .val (.int u5)] [(.int u1), (.int z_b1)])) (fun t k => ?_) ?_
  · show Steps p.tables e below (s₁.setTop (mkF m 0 #[.val (.ref b1), .val (.int u1), .val (.int u2), .val (.int u3), .val (.int u4), .val (.int u5)] [])) _
    refine XS.aloadN X0.here hx rfl (hb hby d5_0) rfl rfl ?_
    show Steps p.tables e below (s₁.setTop (mkF m 1 #[.val (.ref b1), .val (.int u1), .val (.int u2), .val (.int u3), .val (.int u4), .val (.int u5)] [(.ref b1)])) _
    refine XS.ifnonnullYes X0.here hx rfl (pc0 := 1) (pc' := 6) rfl (hb hby d5_1) rfl (by decide) (by decide) ?_
    show Steps p.tables e below (s₁.setTop (mkF m 6 #[.val (.ref b1), .val (.int u1), .val (.int u2), .val (.int u3), .val (.int u4), .val (.int u5)] [])) _
    refine XS.aloadN X0.here hx rfl (hb hby d5_6) rfl rfl ?_
    show Steps p.tables e below (s₁.setTop (mkF m 7 #[.val (.ref b1), .val (.int u1), .val (.int u2), .val (.int u3), .val (.int u4), .val (.int u5)] [(.ref b1)])) _
    refine X0.arraylength hx (cell := cl_b1) (by rw [e0]; exact Ar_b1.1) (State.isArrayOf_alike hZ.alike Ar_b1.2.1) (g := (mkF m 7 #[.val (.ref b1), .val (.int u1), .val (.int u2), .val (.int u3), .val (.int u4), .val (.int u5)] [(.ref b1)])) rfl (rest := []) rfl (hb hby d5_7) _ ?_
    rw [len_of S_b1 M_b1]
    show Steps p.tables e below (s₁.setTop (mkF m 8 #[.val (.ref b1), .val (.int u1), .val (.int u2), .val (.int u3), .val (.int u4), .val (.int u5)] [(.int z_b1)])) _
    refine XS.iloadN X0.here hx rfl (hb hby d5_8) rfl ?_
    show Steps p.tables e below (s₁.setTop (mkF m 9 #[.val (.ref b1), .val (.int u1), .val (.int u2), .val (.int u3), .val (.int u4), .val (.int u5)] [(.int u1), (.int z_b1)])) _
    exact k
  by_cases hc9 : z_b1 = u1
  · refine own_go (b := s₁.setTop (mkF m 15 #[.val (.ref b1), .val (.int u1), .val (.int u2), .val (.int u3), .val (.int u4), .val (.int u5)] [(.int u1)])) (fun t k => ?_) ?_
    · show Steps p.tables e below (s₁.setTop (mkF m 9 #[.val (.ref b1), .val (.int u1), .val (.int u2), .val (.int u3), .val (.int u4), .val (.int u5)] [(.int u1), (.int z_b1)])) _
      refine XS.icmpYes X0.here hx rfl (pc0 := 9) (pc' := 14) rfl (hb hby d5_9) rfl (teq hc9).1 (by decide) (by decide) ?_
      show Steps p.tables e below (s₁.setTop (mkF m 14 #[.val (.ref b1), .val (.int u1), .val (.int u2), .val (.int u3), .val (.int u4), .val (.int u5)] [])) _
      refine XS.iloadN X0.here hx rfl (hb hby d5_14) rfl ?_
      show Steps p.tables e below (s₁.setTop (mkF m 15 #[.val (.ref b1), .val (.int u1), .val (.int u2), .val (.int u3), .val (.int u4), .val (.int u5)] [(.int u1)])) _
      exact k
    by_cases hc15 : (0 : Int32) < u1
    · have hi4 : ¬ (0 : Int32) < 0 ∧ (0 : Int32).toNatClampNeg < z_b1.toNatClampNeg := own_rd (by assumption) hc15 (by decide)
      refine own_go (b := s₁.setTop (mkF m 22 #[.val (.ref b1), .val (.int u1), .val (.int u2), .val (.int u3), .val (.int u4), .val (.int u5)] [(.int u2), (.int (f_b1 (0 : Int32).toNatClampNeg))])) (fun t k => ?_) ?_
      · show Steps p.tables e below (s₁.setTop (mkF m 15 #[.val (.ref b1), .val (.int u1), .val (.int u2), .val (.int u3), .val (.int u4), .val (.int u5)] [(.int u1)])) _
        refine XS.ifNo X0.here hx rfl (hb hby d5_15) rfl ((if0 _ _).trans (tlt hc15).2.2.2) ?_
        show Steps p.tables e below (s₁.setTop (mkF m 18 #[.val (.ref b1), .val (.int u1), .val (.int u2), .val (.int u3), .val (.int u4), .val (.int u5)] [])) _
        refine XS.aloadN X0.here hx rfl (hb hby d5_18) rfl rfl ?_
        show Steps p.tables e below (s₁.setTop (mkF m 19 #[.val (.ref b1), .val (.int u1), .val (.int u2), .val (.int u3), .val (.int u4), .val (.int u5)] [(.ref b1)])) _
        refine XS.iconst X0.here hx rfl (hb hby d5_19) ?_
        show Steps p.tables e below (s₁.setTop (mkF m 20 #[.val (.ref b1), .val (.int u1), .val (.int u2), .val (.int u3), .val (.int u4), .val (.int u5)] [(.int (0 : Int32)), (.ref b1)])) _
        refine X0.baloadBytes hx (j := (0 : Int32)) (v := (.int (f_b1 (0 : Int32).toNatClampNeg))) (by rw [e0]; exact Ar_b1.1) (State.isArrayOf_alike hZ.alike Ar_b1.2.1) Ar_b1.2.2 (own_hin S_b1 hi4) (H_b1 _ hi4.2) (g := (mkF m 20 #[.val (.ref b1), .val (.int u1), .val (.int u2), .val (.int u3), .val (.int u4), .val (.int u5)] [(.int (0 : Int32)), (.ref b1)])) rfl rfl (hb hby d5_20) _ ?_
        show Steps p.tables e below (s₁.setTop (mkF m 21 #[.val (.ref b1), .val (.int u1), .val (.int u2), .val (.int u3), .val (.int u4), .val (.int u5)] [(.int (f_b1 (0 : Int32).toNatClampNeg))])) _
        refine XS.iloadN X0.here hx rfl (hb hby d5_21) rfl ?_
        show Steps p.tables e below (s₁.setTop (mkF m 22 #[.val (.ref b1), .val (.int u1), .val (.int u2), .val (.int u3), .val (.int u4), .val (.int u5)] [(.int u2), (.int (f_b1 (0 : Int32).toNatClampNeg))])) _
        exact k
      by_cases hc22 : (f_b1 (0 : Int32).toNatClampNeg) = u2
      · refine own_go (b := s₁.setTop (mkF m 27 #[.val (.ref b1), .val (.int u1), .val (.int u2), .val (.int u3), .val (.int u4), .val (.int u5)] [])) (fun t k => ?_) ?_
        · show Steps p.tables e below (s₁.setTop (mkF m 22 #[.val (.ref b1), .val (.int u1), .val (.int u2), .val (.int u3), .val (.int u4), .val (.int u5)] [(.int u2), (.int (f_b1 (0 : Int32).toNatClampNeg))])) _
          refine XS.icmpYes X0.here hx rfl (pc0 := 22) (pc' := 27) rfl (hb hby d5_22) rfl (teq hc22).1 (by decide) (by decide) ?_
          show Steps p.tables e below (s₁.setTop (mkF m 27 #[.val (.ref b1), .val (.int u1), .val (.int u2), .val (.int u3), .val (.int u4), .val (.int u5)] [])) _
          exact k
        exact J27 s₁ _ X0 N0 e0   (by assumption) (by rw [own_same_0, if_pos hc9, if_pos hc15, if_pos hc22])
      · refine own_end X0 Bd.notSynchronized (v := some (.int (0 : Int32))) (fun h => by rw [Bd.returns] at h; cases h) (fun fs hr => ?_) e0 ?_ (by decide) (by decide)
        · show Steps p.tables e below (s₁.setTop (mkF m 22 #[.val (.ref b1), .val (.int u1), .val (.int u2), .val (.int u3), .val (.int u4), .val (.int u5)] [(.int u2), (.int (f_b1 (0 : Int32).toNatClampNeg))])) _
          refine XS.icmpNo X0.here hx rfl (hb hby d5_22) rfl (feq hc22).1 ?_
          show Steps p.tables e below (s₁.setTop (mkF m 25 #[.val (.ref b1), .val (.int u1), .val (.int u2), .val (.int u3), .val (.int u4), .val (.int u5)] [])) _
          refine XS.iconst X0.here hx rfl (hb hby d5_25) ?_
          show Steps p.tables e below (s₁.setTop (mkF m 26 #[.val (.ref b1), .val (.int u1), .val (.int u2), .val (.int u3), .val (.int u4), .val (.int u5)] [(.int (0 : Int32))])) _
          exact retN X0 hx (t := .boolean) Bd.returns (by simp) (hb hby d5_26) hr
        · exact ⟨by rw [own_same_0, if_pos hc9, if_pos hc15, if_neg hc22], N0, rfl⟩
    · refine own_go (b := s₁.setTop (mkF m 27 #[.val (.ref b1), .val (.int u1), .val (.int u2), .val (.int u3), .val (.int u4), .val (.int u5)] [])) (fun t k => ?_) ?_
      · show Steps p.tables e below (s₁.setTop (mkF m 15 #[.val (.ref b1), .val (.int u1), .val (.int u2), .val (.int u3), .val (.int u4), .val (.int u5)] [(.int u1)])) _
        refine XS.ifYes X0.here hx rfl (pc0 := 15) (pc' := 27) rfl (hb hby d5_15) rfl ((if0 _ _).trans (flt hc15).2.2.2) (by decide) (by decide) ?_
        show Steps p.tables e below (s₁.setTop (mkF m 27 #[.val (.ref b1), .val (.int u1), .val (.int u2), .val (.int u3), .val (.int u4), .val (.int u5)] [])) _
        exact k
      exact J27 s₁ _ X0 N0 e0   (by assumption) (by rw [own_same_0, if_pos hc9, if_neg hc15])
  · refine own_end X0 Bd.notSynchronized (v := some (.int (0 : Int32))) (fun h => by rw [Bd.returns] at h; cases h) (fun fs hr => ?_) e0 ?_ (by decide) (by decide)
    · show Steps p.tables e below (s₁.setTop (mkF m 9 #[.val (.ref b1), .val (.int u1), .val (.int u2), .val (.int u3), .val (.int u4), .val (.int u5)] [(.int u1), (.int z_b1)])) _
      refine XS.icmpNo X0.here hx rfl (hb hby d5_9) rfl (feq hc9).1 ?_
      show Steps p.tables e below (s₁.setTop (mkF m 12 #[.val (.ref b1), .val (.int u1), .val (.int u2), .val (.int u3), .val (.int u4), .val (.int u5)] [])) _
      refine XS.iconst X0.here hx rfl (hb hby d5_12) ?_
      show Steps p.tables e below (s₁.setTop (mkF m 13 #[.val (.ref b1), .val (.int u1), .val (.int u2), .val (.int u3), .val (.int u4), .val (.int u5)] [(.int (0 : Int32))])) _
      exact retN X0 hx (t := .boolean) Bd.returns (by simp) (hb hby d5_13) hr
    · exact ⟨by rw [own_same_0, if_neg hc9], N0, rfl⟩
theorem own_narb (x : Int32) : nar .byte x.toInt8.toInt32 = x.toInt8.toInt32 := by
  show x.toInt8.toInt32.toInt8.toInt32 = x.toInt8.toInt32
  simp
theorem own_five (x : Int32) : ((x &&& (2147483647 : Int32)) % (5 : Int32)) = (0 : Int32) ∨ ((x &&& (2147483647 : Int32)) % (5 : Int32)) = (1 : Int32) ∨ ((x &&& (2147483647 : Int32)) % (5 : Int32)) = (2 : Int32) ∨ ((x &&& (2147483647 : Int32)) % (5 : Int32)) = (3 : Int32) ∨ ((x &&& (2147483647 : Int32)) % (5 : Int32)) = (4 : Int32) := by
  have h0 : 0 ≤ (x &&& (2147483647 : Int32)).toInt := by rw [Jvm.Kit.i32_mask x 2147483647 (k := 31) (by decide) (by decide)]; omega
  have h : ((x &&& (2147483647 : Int32)) % (5 : Int32)).toInt = (x &&& (2147483647 : Int32)).toInt % 5 := Jvm.Kit.i32_rem_nonneg h0
  have e0 : (0 : Int32).toInt = 0 := rfl
  have e1 : (1 : Int32).toInt = 1 := rfl
  have e2 : (2 : Int32).toInt = 2 := rfl
  have e3 : (3 : Int32).toInt = 3 := rfl
  have e4 : (4 : Int32).toInt = 4 := rfl
  rw [← Int32.toInt_inj, ← Int32.toInt_inj, ← Int32.toInt_inj, ← Int32.toInt_inj, ← Int32.toInt_inj, h, e0, e1, e2, e3, e4]
  omega
theorem pd__28_5bB_29Lcom_2fexample_2fcicada_2fcicada_2fcore_2fPayload_3b : parseMethodDescriptor "([B)Lcom/example/cicada/cicada/core/Payload;" = some ⟨[(.array .byte)], some (.object "com/example/cicada/cicada/core/Payload")⟩ := by decide +kernel
theorem pd__28_29I : parseMethodDescriptor "()I" = some ⟨[], some .int⟩ := by decide +kernel
theorem pd__28_29_5bB : parseMethodDescriptor "()[B" = some ⟨[], some (.array .byte)⟩ := by decide +kernel
theorem pd__28_5bBIBBBB_29Z : parseMethodDescriptor "([BIBBBB)Z" = some ⟨[(.array .byte), .int, .byte, .byte, .byte, .byte], some .boolean⟩ := by decide +kernel
theorem pn_0 : plainName "com/example/cicada/cicada/core/PayloadOfPinLaw" = true := by first | (simp [plainName, overriddenIn]; done) | decide +kernel
theorem ef_0 (m : MethodId) (x0 : Int32) (x1 : Int32) (x2 : Int32) (x3 : Int32) (x4 : Int32) : entryFrame m #[(.int x0), (.int x1), (.int x2), (.int x3), (.int x4)] maxLocals = mkF m 0 #[.val (.int x0), .val (.int x1), .val (.int x2), .val (.int x3), .val (.int x4), .unset, .unset, .unset, .unset, .unset, .unset, .unset, .unset, .unset] [] := by first | (simp [entryFrame, mkF, argsToLocals, Value.category, maxLocals]; done) | rfl
def Q0 (p1 : Int32) (p2 : Int32) (p3 : Int32) (p4 : Int32) (p5 : Int32) (h0 : Heap) (n0 : Nat) (v : Option Value) (h : Heap) (L : List Loc) : Prop := v = some (.int 1) ∧ Fr n0 L
set_option maxRecDepth 65536 in
set_option maxHeartbeats 40000000 in
theorem rm0 (l : Launch) (Z : State) (a0 : Array Value) (hw : ∀ d ∈ tables_1, d.before a0 Z = true) (ws : List Jvm.Cond) (p1 : Int32) (p2 : Int32) (p3 : Int32) (p4 : Int32) (p5 : Int32) (h0 : Heap) (n0 : Nat) (Z0 : n0 ≤ h0.size)  :
    MetFree l x (head1 (Jvm.Cond.code x code maxLocals ret :: ws) room_1) (fun a U => a = #[(.int p1), (.int p2), (.int p3), (.int p4), (.int p5)] ∧ Z.Warmed39 U.vm ∧ U.heap = h0) (fun _ _ _ _ _ => True) (fun _ U o U' => ∃ v L, o = .returned v ∧ Q0 p1 p2 p3 p4 p5 h0 n0 v U'.heap L ∧ FrameEnd U o U' L 24 128) := by
  refine MetFree.of_bodySF (plainFor_of_name pn_0) hisR ?_
  intro p e s m args below meth c s₁ Bd hml0 hP hK
  obtain ⟨rfl, hZ, hh⟩ := hP
  have hx := Bd.exec
  have hby := Bd.bytes
  have hml : c.maxLocals = 14 := hml0
  have hown : s.vm.findClass "com/example/cicada/cicada/core/PayloadOfPinLaw" = some m.cls := findClass_of_methodNamed Bd.named
  have hnm := (name_of_methodNamed Bd.named Bd.method).1
  have X0 : Stand p l e room_1 s m #[(.int p1), (.int p2), (.int p3), (.int p4), (.int p5)] below meth c s₁ [] 0 0 := Stand.of_body Bd
  have e0 : s₁.heap = h0 := by rw [← hh, Bd.state]; rfl
  have N0 := Fr.nil n0
  show own_Go p e below s (Q0 p1 p2 p3 p4 p5 h0 n0) 24 128 (s₁.setTop (entryFrame m #[(.int p1), (.int p2), (.int p3), (.int p4), (.int p5)] maxLocals))
  refine own_go (b := s₁.setTop (mkF m 0 #[.val (.int p1), .val (.int p2), .val (.int p3), .val (.int p4), .val (.int p5), .unset, .unset, .unset, .unset, .unset, .unset, .unset, .unset, .unset] [])) (fun t k => castTop (ef_0 m p1 p2 p3 p4 p5) k) ?_
  refine own_go (b := s₁.setTop (mkF m 25 #[.val (.int p1), .val (.int p2), .val (.int p3), .val (.int p4), .val (.int p5), .val (.int ((p1 &&& (2147483647 : Int32)) % (5 : Int32))), .val (.int (p2.toInt8.toInt32)), .val (.int (p3.toInt8.toInt32)), .val (.int (p4.toInt8.toInt32)), .val (.int (p5.toInt8.toInt32)), .unset, .unset, .unset, .unset] [])) (fun t k => ?_) ?_
  · show Steps p.tables e below (s₁.setTop (mkF m 0 #[.val (.int p1), .val (.int p2), .val (.int p3), .val (.int p4), .val (.int p5), .unset, .unset, .unset, .unset, .unset, .unset, .unset, .unset, .unset] [])) _
    refine XS.iloadN X0.here hx rfl (hb hby at_0) rfl ?_
    show Steps p.tables e below (s₁.setTop (mkF m 1 #[.val (.int p1), .val (.int p2), .val (.int p3), .val (.int p4), .val (.int p5), .unset, .unset, .unset, .unset, .unset, .unset, .unset, .unset, .unset] [(.int p1)])) _
    refine X0.ldcI hx hown (mvT hZ (hw _ (List.mem_of_getElem? (i := 0) rfl))) rfl (hb hby at_1) ?_
    show Steps p.tables e below (s₁.setTop (mkF m 3 #[.val (.int p1), .val (.int p2), .val (.int p3), .val (.int p4), .val (.int p5), .unset, .unset, .unset, .unset, .unset, .unset, .unset, .unset, .unset] [(.int (2147483647 : Int32)), (.int p1)])) _
    refine XS.iand X0.here hx rfl (hb hby at_3) rfl ?_
    show Steps p.tables e below (s₁.setTop (mkF m 4 #[.val (.int p1), .val (.int p2), .val (.int p3), .val (.int p4), .val (.int p5), .unset, .unset, .unset, .unset, .unset, .unset, .unset, .unset, .unset] [(.int (p1 &&& (2147483647 : Int32)))])) _
    refine XS.iconst X0.here hx rfl (hb hby at_4) ?_
    show Steps p.tables e below (s₁.setTop (mkF m 5 #[.val (.int p1), .val (.int p2), .val (.int p3), .val (.int p4), .val (.int p5), .unset, .unset, .unset, .unset, .unset, .unset, .unset, .unset, .unset] [(.int (5 : Int32)), (.int (p1 &&& (2147483647 : Int32)))])) _
    refine iremM X0 hx rfl (hb hby at_5) rfl (by decide) ?_
    show Steps p.tables e below (s₁.setTop (mkF m 6 #[.val (.int p1), .val (.int p2), .val (.int p3), .val (.int p4), .val (.int p5), .unset, .unset, .unset, .unset, .unset, .unset, .unset, .unset, .unset] [(.int ((p1 &&& (2147483647 : Int32)) % (5 : Int32)))])) _
    refine XS.istore X0.here hx rfl (hb hby at_6) rfl (l' := #[.val (.int p1), .val (.int p2), .val (.int p3), .val (.int p4), .val (.int p5), .val (.int ((p1 &&& (2147483647 : Int32)) % (5 : Int32))), .unset, .unset, .unset, .unset, .unset, .unset, .unset, .unset]) rfl ?_
    show Steps p.tables e below (s₁.setTop (mkF m 8 #[.val (.int p1), .val (.int p2), .val (.int p3), .val (.int p4), .val (.int p5), .val (.int ((p1 &&& (2147483647 : Int32)) % (5 : Int32))), .unset, .unset, .unset, .unset, .unset, .unset, .unset, .unset] [])) _
    refine XS.iloadN X0.here hx rfl (hb hby at_8) rfl ?_
    show Steps p.tables e below (s₁.setTop (mkF m 9 #[.val (.int p1), .val (.int p2), .val (.int p3), .val (.int p4), .val (.int p5), .val (.int ((p1 &&& (2147483647 : Int32)) % (5 : Int32))), .unset, .unset, .unset, .unset, .unset, .unset, .unset, .unset] [(.int p2)])) _
    refine XS.i2b X0.here hx rfl (hb hby at_9) rfl ?_
    show Steps p.tables e below (s₁.setTop (mkF m 10 #[.val (.int p1), .val (.int p2), .val (.int p3), .val (.int p4), .val (.int p5), .val (.int ((p1 &&& (2147483647 : Int32)) % (5 : Int32))), .unset, .unset, .unset, .unset, .unset, .unset, .unset, .unset] [(.int (p2.toInt8.toInt32))])) _
    refine XS.istore X0.here hx rfl (hb hby at_10) rfl (l' := #[.val (.int p1), .val (.int p2), .val (.int p3), .val (.int p4), .val (.int p5), .val (.int ((p1 &&& (2147483647 : Int32)) % (5 : Int32))), .val (.int (p2.toInt8.toInt32)), .unset, .unset, .unset, .unset, .unset, .unset, .unset]) rfl ?_
    show Steps p.tables e below (s₁.setTop (mkF m 12 #[.val (.int p1), .val (.int p2), .val (.int p3), .val (.int p4), .val (.int p5), .val (.int ((p1 &&& (2147483647 : Int32)) % (5 : Int32))), .val (.int (p2.toInt8.toInt32)), .unset, .unset, .unset, .unset, .unset, .unset, .unset] [])) _
    refine XS.iloadN X0.here hx rfl (hb hby at_12) rfl ?_
    show Steps p.tables e below (s₁.setTop (mkF m 13 #[.val (.int p1), .val (.int p2), .val (.int p3), .val (.int p4), .val (.int p5), .val (.int ((p1 &&& (2147483647 : Int32)) % (5 : Int32))), .val (.int (p2.toInt8.toInt32)), .unset, .unset, .unset, .unset, .unset, .unset, .unset] [(.int p3)])) _
    refine XS.i2b X0.here hx rfl (hb hby at_13) rfl ?_
    show Steps p.tables e below (s₁.setTop (mkF m 14 #[.val (.int p1), .val (.int p2), .val (.int p3), .val (.int p4), .val (.int p5), .val (.int ((p1 &&& (2147483647 : Int32)) % (5 : Int32))), .val (.int (p2.toInt8.toInt32)), .unset, .unset, .unset, .unset, .unset, .unset, .unset] [(.int (p3.toInt8.toInt32))])) _
    refine XS.istore X0.here hx rfl (hb hby at_14) rfl (l' := #[.val (.int p1), .val (.int p2), .val (.int p3), .val (.int p4), .val (.int p5), .val (.int ((p1 &&& (2147483647 : Int32)) % (5 : Int32))), .val (.int (p2.toInt8.toInt32)), .val (.int (p3.toInt8.toInt32)), .unset, .unset, .unset, .unset, .unset, .unset]) rfl ?_
    show Steps p.tables e below (s₁.setTop (mkF m 16 #[.val (.int p1), .val (.int p2), .val (.int p3), .val (.int p4), .val (.int p5), .val (.int ((p1 &&& (2147483647 : Int32)) % (5 : Int32))), .val (.int (p2.toInt8.toInt32)), .val (.int (p3.toInt8.toInt32)), .unset, .unset, .unset, .unset, .unset, .unset] [])) _
    refine XS.iloadN X0.here hx rfl (hb hby at_16) rfl ?_
    show Steps p.tables e below (s₁.setTop (mkF m 17 #[.val (.int p1), .val (.int p2), .val (.int p3), .val (.int p4), .val (.int p5), .val (.int ((p1 &&& (2147483647 : Int32)) % (5 : Int32))), .val (.int (p2.toInt8.toInt32)), .val (.int (p3.toInt8.toInt32)), .unset, .unset, .unset, .unset, .unset, .unset] [(.int p4)])) _
    refine XS.i2b X0.here hx rfl (hb hby at_17) rfl ?_
    show Steps p.tables e below (s₁.setTop (mkF m 18 #[.val (.int p1), .val (.int p2), .val (.int p3), .val (.int p4), .val (.int p5), .val (.int ((p1 &&& (2147483647 : Int32)) % (5 : Int32))), .val (.int (p2.toInt8.toInt32)), .val (.int (p3.toInt8.toInt32)), .unset, .unset, .unset, .unset, .unset, .unset] [(.int (p4.toInt8.toInt32))])) _
    refine XS.istore X0.here hx rfl (hb hby at_18) rfl (l' := #[.val (.int p1), .val (.int p2), .val (.int p3), .val (.int p4), .val (.int p5), .val (.int ((p1 &&& (2147483647 : Int32)) % (5 : Int32))), .val (.int (p2.toInt8.toInt32)), .val (.int (p3.toInt8.toInt32)), .val (.int (p4.toInt8.toInt32)), .unset, .unset, .unset, .unset, .unset]) rfl ?_
    show Steps p.tables e below (s₁.setTop (mkF m 20 #[.val (.int p1), .val (.int p2), .val (.int p3), .val (.int p4), .val (.int p5), .val (.int ((p1 &&& (2147483647 : Int32)) % (5 : Int32))), .val (.int (p2.toInt8.toInt32)), .val (.int (p3.toInt8.toInt32)), .val (.int (p4.toInt8.toInt32)), .unset, .unset, .unset, .unset, .unset] [])) _
    refine XS.iload X0.here hx rfl (hb hby at_20) rfl ?_
    show Steps p.tables e below (s₁.setTop (mkF m 22 #[.val (.int p1), .val (.int p2), .val (.int p3), .val (.int p4), .val (.int p5), .val (.int ((p1 &&& (2147483647 : Int32)) % (5 : Int32))), .val (.int (p2.toInt8.toInt32)), .val (.int (p3.toInt8.toInt32)), .val (.int (p4.toInt8.toInt32)), .unset, .unset, .unset, .unset, .unset] [(.int p5)])) _
    refine XS.i2b X0.here hx rfl (hb hby at_22) rfl ?_
    show Steps p.tables e below (s₁.setTop (mkF m 23 #[.val (.int p1), .val (.int p2), .val (.int p3), .val (.int p4), .val (.int p5), .val (.int ((p1 &&& (2147483647 : Int32)) % (5 : Int32))), .val (.int (p2.toInt8.toInt32)), .val (.int (p3.toInt8.toInt32)), .val (.int (p4.toInt8.toInt32)), .unset, .unset, .unset, .unset, .unset] [(.int (p5.toInt8.toInt32))])) _
    refine XS.istore X0.here hx rfl (hb hby at_23) rfl (l' := #[.val (.int p1), .val (.int p2), .val (.int p3), .val (.int p4), .val (.int p5), .val (.int ((p1 &&& (2147483647 : Int32)) % (5 : Int32))), .val (.int (p2.toInt8.toInt32)), .val (.int (p3.toInt8.toInt32)), .val (.int (p4.toInt8.toInt32)), .val (.int (p5.toInt8.toInt32)), .unset, .unset, .unset, .unset]) rfl ?_
    show Steps p.tables e below (s₁.setTop (mkF m 25 #[.val (.int p1), .val (.int p2), .val (.int p3), .val (.int p4), .val (.int p5), .val (.int ((p1 &&& (2147483647 : Int32)) % (5 : Int32))), .val (.int (p2.toInt8.toInt32)), .val (.int (p3.toInt8.toInt32)), .val (.int (p4.toInt8.toInt32)), .val (.int (p5.toInt8.toInt32)), .unset, .unset, .unset, .unset] [])) _
    exact k
  obtain ⟨nn, hnn⟩ : ∃ z : Int32, z = ((p1 &&& (2147483647 : Int32)) % (5 : Int32)) := ⟨_, rfl⟩
  rw [← hnn]
  obtain ⟨ev0, hev0⟩ : ∃ z : Int32, z = (p2.toInt8.toInt32) := ⟨_, rfl⟩
  rw [← hev0]
  have hb96 : nar .byte ev0 = ev0 := by rw [hev0]; exact own_narb _
  obtain ⟨ev1, hev1⟩ : ∃ z : Int32, z = (p3.toInt8.toInt32) := ⟨_, rfl⟩
  rw [← hev1]
  have hb97 : nar .byte ev1 = ev1 := by rw [hev1]; exact own_narb _
  obtain ⟨ev2, hev2⟩ : ∃ z : Int32, z = (p4.toInt8.toInt32) := ⟨_, rfl⟩
  rw [← hev2]
  have hb98 : nar .byte ev2 = ev2 := by rw [hev2]; exact own_narb _
  obtain ⟨ev3, hev3⟩ : ∃ z : Int32, z = (p5.toInt8.toInt32) := ⟨_, rfl⟩
  rw [← hev3]
  have hb99 : nar .byte ev3 = ev3 := by rw [hev3]; exact own_narb _
  rcases (show nn = (0 : Int32) ∨ nn = (1 : Int32) ∨ nn = (2 : Int32) ∨ nn = (3 : Int32) ∨ nn = (4 : Int32) from by rw [hnn]; exact own_five p1) with rfl | rfl | rfl | rfl | rfl
  · obtain ⟨T1, h1, k1, X1, e1, E1, A1, B1, st1⟩ := newPE X0 hx hZ (hw _ (List.mem_of_getElem? (i := 1) rfl)) e0 (g := (mkF m 27 #[.val (.int p1), .val (.int p2), .val (.int p3), .val (.int p4), .val (.int p5), .val (.int (0 : Int32)), .val (.int ev0), .val (.int ev1), .val (.int ev2), .val (.int ev3), .unset, .unset, .unset, .unset] [(.int (0 : Int32))])) rfl (hb hby at_27) rfl (by decide) (cap := 0) (by decide) (by decide) (by decide) (by decide) (ad := "[B") (by first | rfl | decide +kernel)
    obtain ⟨a1, ga1⟩ : ∃ z, z = h0.size := ⟨_, rfl⟩
    rw [← ga1] at A1 B1 st1
    have lo1 : n0 ≤ a1 := Nat.le_trans Z0 (Nat.le_of_eq ga1.symm)
    have Z1 : n0 ≤ h1.size := Nat.le_trans Z0 E1.1
    have V2 : Arv Z h1 a1 k1 .byte (0 : Int32) [] (.int (0 : Int32)) := (Arv.new A1 (by decide)).pad (pad_rep [] (.int (0 : Int32)) 0)
    have hc33_3 : ¬ ((0 : Int32) < (0 : Int32)) := (by decide)
    have hc45_4 : ¬ ((1 : Int32) < (0 : Int32)) := (by decide)
    have hc57_5 : ¬ ((2 : Int32) < (0 : Int32)) := (by decide)
    have hc69_6 : ¬ ((3 : Int32) < (0 : Int32)) := (by decide)
    obtain ⟨_, _, ⟨T7, uL7, uk7, un7⟩, -, X7, ⟨Lc7, hQ7, ul7, uy7, uz7⟩, st7⟩ := Jvm.LawKit.callS X1 hx (y := (⟨"com/example/cicada/cicada/core/Payload", "of", "([B)Lcom/example/cicada/cicada/core/Payload;"⟩ : MethodName)) hown (mvT hZ (hw _ (List.mem_of_getElem? (i := 2) rfl))) (mvT hZ (hw _ (List.mem_of_getElem? (i := 3) rfl))) (mvT hZ (hw _ (List.mem_of_getElem? (i := 4) rfl))) (mvT hZ (hw _ (List.mem_of_getElem? (i := 5) rfl))) (by decide) (backOf (W := 0) (rm2 l Z a0 hw [] a1 k1 (0 : Int32) [] h1 n0 Z1 V2 B1 (by decide)) hZ (hw _ (List.mem_of_getElem? (i := 5) rfl)) (hw _ (List.mem_of_getElem? (i := 4) rfl)) (by decide) (by decide)) (g := (mkF m 80 #[.val (.int p1), .val (.int p2), .val (.int p3), .val (.int p4), .val (.int p5), .val (.int (0 : Int32)), .val (.int ev0), .val (.int ev1), .val (.int ev2), .val (.int ev3), .val (.ref a1), .unset, .unset, .unset] [(.ref a1)])) rfl (by rw [hml]; rfl) (argsL := [(.ref a1)]) (rest := []) (lenOf pd__28_5bB_29Lcom_2fexample_2fcicada_2fcicada_2fcore_2fPayload_3b rfl) rfl (by show 2 * 0 + _ ≤ _; exact Nat.le_of_eq rfl) (hb hby at_80) (fun _ _ => ⟨rfl, e1, (by decide : 1 + 2 ≤ _), (by decide : 0 + 5 ≤ _)⟩)
    dsimp only [Pt.U, Pt.locs, Pt.cells, Pt.slots] at X7 ul7 uy7 uz7 st7 hQ7
    subst ul7 uy7 uz7
    obtain ⟨r7, s7, rfl, Nq7, K7, ge7, lt7, Er7, Fr7, Es7, Vs7⟩ := hQ7
    have lr7_a1 : a1 < r7 := Nat.lt_of_lt_of_le B1.lt ge7
    have ls7_a1 : a1 < s7 := Nat.lt_trans lr7_a1 lt7
    have E8 := B1.keep K7
    have V9 := V2.keep K7 nin0
    have Z7 : n0 ≤ T7.heap.size := Nat.le_trans Z1 K7.1
    have N7 := Fr.app N0 Nq7
    obtain ⟨cq10, kq10, qa10, qb10, qc10⟩ := isOf hZ rfl Er7
    obtain ⟨_, _, ⟨T10, uL10, uk10, un10⟩, -, X10, ⟨Lc10, hQ10, ul10, uy10, uz10⟩, st10⟩ := X7.virtualBack hx (y := (⟨"com/example/cicada/cicada/core/Payload", "size", "()I"⟩ : MethodName)) (z := (⟨"com/example/cicada/cicada/core/Payload", "size", "()I"⟩ : MethodName)) hown (mvT hZ (hw _ (List.mem_of_getElem? (i := 25) rfl))) (mvT hZ (hw _ (List.mem_of_getElem? (i := 26) rfl))) (notFace_of_selects (args := #[]) (mvT hZ (hw _ (List.mem_of_getElem? (i := 28) rfl)))) (mvT hZ (hw _ (List.mem_of_getElem? (i := 28) rfl))) (mvT hZ (hw _ (List.mem_of_getElem? (i := 27) rfl))) (by decide) (backOf (W := 0) (rm3 l Z a0 hw [] r7 s7 k1 (0 : Int32) [] T7.heap n0 Z7 Fr7 Vs7) hZ (hw _ (List.mem_of_getElem? (i := 29) rfl)) (hw _ (List.mem_of_getElem? (i := 4) rfl)) (by decide) (by decide)) qa10 qc10 (g := (mkF m 94 #[.val (.int p1), .val (.int p2), .val (.int p3), .val (.int p4), .val (.int p5), .val (.int (0 : Int32)), .val (.int ev0), .val (.int ev1), .val (.int ev2), .val (.int ev3), .val (.ref a1), .val (.ref r7), .unset, .unset] [(.ref r7)])) rfl (by rw [hml]; rfl) (Steps.refl _) (argsL := []) (rest := []) (lenOf pd__28_29I rfl) rfl (by show 2 * 0 + _ ≤ _; exact Nat.le_of_eq rfl) (hb hby at_94) (fun _ _ => ⟨rfl, rfl, (by decide : 3 + 0 ≤ _), (by decide : 5 + 0 ≤ _)⟩)
    dsimp only [Pt.U, Pt.locs, Pt.cells, Pt.slots] at X10 ul10 uy10 uz10 st10 hQ10
    subst ul10 uy10 uz10
    obtain ⟨rfl, Nq10, e10⟩ := hQ10
    have N10 := Fr.app N7 Nq10
    have hc99_11 : (0 : Int32) = (0 : Int32) := (by decide)
    obtain ⟨cq12, kq12, qa12, qb12, qc12⟩ := isOf hZ e10 Er7
    obtain ⟨_, _, ⟨T12, uL12, uk12, un12⟩, -, X12, ⟨Lc12, hQ12, ul12, uy12, uz12⟩, st12⟩ := X10.virtualBack hx (y := (⟨"com/example/cicada/cicada/core/Payload", "bytes", "()[B"⟩ : MethodName)) (z := (⟨"com/example/cicada/cicada/core/Payload", "bytes", "()[B"⟩ : MethodName)) hown (mvT hZ (hw _ (List.mem_of_getElem? (i := 30) rfl))) (mvT hZ (hw _ (List.mem_of_getElem? (i := 31) rfl))) (notFace_of_selects (args := #[]) (mvT hZ (hw _ (List.mem_of_getElem? (i := 33) rfl)))) (mvT hZ (hw _ (List.mem_of_getElem? (i := 33) rfl))) (mvT hZ (hw _ (List.mem_of_getElem? (i := 32) rfl))) (by decide) (backOf (W := 0) (rm4 l Z a0 hw [] r7 s7 k1 (0 : Int32) [] T7.heap n0 Z7 Fr7 Vs7 Es7 (by decide)) hZ (hw _ (List.mem_of_getElem? (i := 34) rfl)) (hw _ (List.mem_of_getElem? (i := 4) rfl)) (by decide) (by decide)) qa12 qc12 (g := (mkF m 106 #[.val (.int p1), .val (.int p2), .val (.int p3), .val (.int p4), .val (.int p5), .val (.int (0 : Int32)), .val (.int ev0), .val (.int ev1), .val (.int ev2), .val (.int ev3), .val (.ref a1), .val (.ref r7), .unset, .unset] [(.ref r7)])) rfl (by rw [hml]; rfl) (Steps.refl _) (argsL := []) (rest := []) (lenOf pd__28_29_5bB rfl) rfl (by show 2 * 0 + _ ≤ _; exact Nat.le_of_eq rfl) (hb hby at_106) (fun _ _ => ⟨rfl, e10, (by decide : 3 + 1 ≤ _), (by decide : 5 + 4 ≤ _)⟩)
    dsimp only [Pt.U, Pt.locs, Pt.cells, Pt.slots] at X12 ul12 uy12 uz12 st12 hQ12
    subst ul12 uy12 uz12
    obtain ⟨r12, rfl, Nq12, K12, ge12, Er12, Vr12⟩ := hQ12
    have lr12_a1 : a1 < r12 := Nat.lt_of_lt_of_le E8.lt ge12
    have lr12_r7 : r7 < r12 := Nat.lt_of_lt_of_le Er7.lt ge12
    have lr12_s7 : s7 < r12 := Nat.lt_of_lt_of_le Es7.lt ge12
    have E13 := E8.keep K12
    have V14 := V9.keep K12 nin0
    have E15 := Er7.keep K12
    have E16 := Es7.keep K12
    have F17 := Fr7.keep K12 nin0
    have V18 := Vs7.keep K12 nin0
    have Z12 : n0 ≤ T12.heap.size := Nat.le_trans Z7 K12.1
    have N12 := Fr.app N10 Nq12
    obtain ⟨cl19, Ar19, q19, S19, M19, H19, U19⟩ := id Vr12
    obtain ⟨_, _, ⟨T20, uL20, uk20, un20⟩, -, X20, ⟨Lc20, hQ20, ul20, uy20, uz20⟩, st20⟩ := Jvm.LawKit.callS X12 hx (y := (⟨"com/example/cicada/cicada/core/PayloadOfPinLaw", "same", "([BIBBBB)Z"⟩ : MethodName)) hown (mvT hZ (hw _ (List.mem_of_getElem? (i := 35) rfl))) (mvT hZ (hw _ (List.mem_of_getElem? (i := 36) rfl))) (mvT hZ (hw _ (List.mem_of_getElem? (i := 37) rfl))) (mvT hZ (hw _ (List.mem_of_getElem? (i := 38) rfl))) (by decide) (backOf (W := 0) (rm5 l Z a0 hw [] r12 cl19 (fun i => ([] : List Int32).getD i 0) (0 : Int32) (0 : Int32) ev0 ev1 ev2 ev3 T12.heap n0 Z12 Ar19 S19 M19 (own_has (xs := ([] : List Int32)) H19 S19)) hZ (hw _ (List.mem_of_getElem? (i := 38) rfl)) (hw _ (List.mem_of_getElem? (i := 37) rfl)) (by decide) (by decide)) (g := (mkF m 123 #[.val (.int p1), .val (.int p2), .val (.int p3), .val (.int p4), .val (.int p5), .val (.int (0 : Int32)), .val (.int ev0), .val (.int ev1), .val (.int ev2), .val (.int ev3), .val (.ref a1), .val (.ref r7), .val (.ref r12), .unset] [(.int ev3), (.int ev2), (.int ev1), (.int ev0), (.int (0 : Int32)), (.ref r12)])) rfl (by rw [hml]; rfl) (argsL := [(.ref r12), (.int (0 : Int32)), (.int ev0), (.int ev1), (.int ev2), (.int ev3)]) (rest := []) (lenOf pd__28_5bBIBBBB_29Z rfl) rfl (by show 2 * 0 + _ ≤ _; exact Nat.le_of_eq rfl) (hb hby at_123) (fun _ _ => ⟨rfl, rfl, (by decide : 4 + 0 ≤ _), (by decide : 9 + 0 ≤ _)⟩)
    dsimp only [Pt.U, Pt.locs, Pt.cells, Pt.slots] at X20 ul20 uy20 uz20 st20 hQ20
    subst ul20 uy20 uz20
    obtain ⟨rfl, Nq20, e20⟩ := hQ20
    have N20 := Fr.app N12 Nq20
    have hc126_21 : ¬ ((own_same_0 (fun i => ([] : List Int32).getD i 0) (0 : Int32) (0 : Int32) ev0 ev1 ev2 ev3) = (0 : Int32)) := by simp [own_same_0, own_same_27, own_same_41, own_same_56]
    have hc133_22 : ¬ ((0 : Int32) < (0 : Int32)) := (by decide)
    have hc148_23 : ¬ ((1 : Int32) < (0 : Int32)) := (by decide)
    have hc163_24 : ¬ ((2 : Int32) < (0 : Int32)) := (by decide)
    have hc178_25 : ¬ ((3 : Int32) < (0 : Int32)) := (by decide)
    obtain ⟨cq26, kq26, qa26, qb26, qc26⟩ := isOf hZ e20 E15
    obtain ⟨_, _, ⟨T26, uL26, uk26, un26⟩, -, X26, ⟨Lc26, hQ26, ul26, uy26, uz26⟩, st26⟩ := X20.virtualBack hx (y := (⟨"com/example/cicada/cicada/core/Payload", "bytes", "()[B"⟩ : MethodName)) (z := (⟨"com/example/cicada/cicada/core/Payload", "bytes", "()[B"⟩ : MethodName)) hown (mvT hZ (hw _ (List.mem_of_getElem? (i := 30) rfl))) (mvT hZ (hw _ (List.mem_of_getElem? (i := 31) rfl))) (notFace_of_selects (args := #[]) (mvT hZ (hw _ (List.mem_of_getElem? (i := 33) rfl)))) (mvT hZ (hw _ (List.mem_of_getElem? (i := 33) rfl))) (mvT hZ (hw _ (List.mem_of_getElem? (i := 32) rfl))) (by decide) (backOf (W := 0) (rm4 l Z a0 hw [] r7 s7 k1 (0 : Int32) [] T12.heap n0 Z12 F17 V18 E16 (by decide)) hZ (hw _ (List.mem_of_getElem? (i := 34) rfl)) (hw _ (List.mem_of_getElem? (i := 4) rfl)) (by decide) (by decide)) qa26 qc26 (g := (mkF m 192 #[.val (.int p1), .val (.int p2), .val (.int p3), .val (.int p4), .val (.int p5), .val (.int (0 : Int32)), .val (.int ev0), .val (.int ev1), .val (.int ev2), .val (.int ev3), .val (.ref a1), .val (.ref r7), .val (.ref r12), .unset] [(.ref r7)])) rfl (by rw [hml]; rfl) (Steps.refl _) (argsL := []) (rest := []) (lenOf pd__28_29_5bB rfl) rfl (by show 2 * 0 + _ ≤ _; exact Nat.le_of_eq rfl) (hb hby at_192) (fun _ _ => ⟨rfl, e20, (by decide : 4 + 1 ≤ _), (by decide : 9 + 4 ≤ _)⟩)
    dsimp only [Pt.U, Pt.locs, Pt.cells, Pt.slots] at X26 ul26 uy26 uz26 st26 hQ26
    subst ul26 uy26 uz26
    obtain ⟨r26, rfl, Nq26, K26, ge26, Er26, Vr26⟩ := hQ26
    have lr26_a1 : a1 < r26 := Nat.lt_of_lt_of_le E13.lt ge26
    have lr26_r7 : r7 < r26 := Nat.lt_of_lt_of_le E15.lt ge26
    have lr26_s7 : s7 < r26 := Nat.lt_of_lt_of_le E16.lt ge26
    have lr26_r12 : r12 < r26 := Nat.lt_of_lt_of_le Er12.lt ge26
    have E27 := E13.keep K26
    have V28 := V14.keep K26 nin0
    have E29 := E15.keep K26
    have E30 := E16.keep K26
    have F31 := F17.keep K26 nin0
    have V32 := V18.keep K26 nin0
    have E33 := Er12.keep K26
    have V34 := Vr12.keep K26 nin0
    have Z26 : n0 ≤ T26.heap.size := Nat.le_trans Z12 K26.1
    have N26 := Fr.app N20 Nq26
    obtain ⟨cl35, Ar35, q35, S35, M35, H35, U35⟩ := id Vr26
    obtain ⟨_, _, ⟨T36, uL36, uk36, un36⟩, -, X36, ⟨Lc36, hQ36, ul36, uy36, uz36⟩, st36⟩ := Jvm.LawKit.callS X26 hx (y := (⟨"com/example/cicada/cicada/core/PayloadOfPinLaw", "same", "([BIBBBB)Z"⟩ : MethodName)) hown (mvT hZ (hw _ (List.mem_of_getElem? (i := 35) rfl))) (mvT hZ (hw _ (List.mem_of_getElem? (i := 36) rfl))) (mvT hZ (hw _ (List.mem_of_getElem? (i := 37) rfl))) (mvT hZ (hw _ (List.mem_of_getElem? (i := 38) rfl))) (by decide) (backOf (W := 0) (rm5 l Z a0 hw [] r26 cl35 (fun i => ([] : List Int32).getD i 0) (0 : Int32) (0 : Int32) ev0 ev1 ev2 ev3 T26.heap n0 Z26 Ar35 S35 M35 (own_has (xs := ([] : List Int32)) H35 S35)) hZ (hw _ (List.mem_of_getElem? (i := 38) rfl)) (hw _ (List.mem_of_getElem? (i := 37) rfl)) (by decide) (by decide)) (g := (mkF m 209 #[.val (.int p1), .val (.int p2), .val (.int p3), .val (.int p4), .val (.int p5), .val (.int (0 : Int32)), .val (.int ev0), .val (.int ev1), .val (.int ev2), .val (.int ev3), .val (.ref a1), .val (.ref r7), .val (.ref r12), .val (.ref r26)] [(.int ev3), (.int ev2), (.int ev1), (.int ev0), (.int (0 : Int32)), (.ref r26)])) rfl (by rw [hml]; rfl) (argsL := [(.ref r26), (.int (0 : Int32)), (.int ev0), (.int ev1), (.int ev2), (.int ev3)]) (rest := []) (lenOf pd__28_5bBIBBBB_29Z rfl) rfl (by show 2 * 0 + _ ≤ _; exact Nat.le_of_eq rfl) (hb hby at_209) (fun _ _ => ⟨rfl, rfl, (by decide : 5 + 0 ≤ _), (by decide : 13 + 0 ≤ _)⟩)
    dsimp only [Pt.U, Pt.locs, Pt.cells, Pt.slots] at X36 ul36 uy36 uz36 st36 hQ36
    subst ul36 uy36 uz36
    obtain ⟨rfl, Nq36, e36⟩ := hQ36
    have N36 := Fr.app N26 Nq36
    have hc212_37 : ¬ ((own_same_0 (fun i => ([] : List Int32).getD i 0) (0 : Int32) (0 : Int32) ev0 ev1 ev2 ev3) = (0 : Int32)) := by simp [own_same_0, own_same_27, own_same_41, own_same_56]
    obtain ⟨cq38, kq38, qa38, qb38, qc38⟩ := isOf hZ e36 E29
    obtain ⟨_, _, ⟨T38, uL38, uk38, un38⟩, -, X38, ⟨Lc38, hQ38, ul38, uy38, uz38⟩, st38⟩ := X36.virtualBack hx (y := (⟨"com/example/cicada/cicada/core/Payload", "size", "()I"⟩ : MethodName)) (z := (⟨"com/example/cicada/cicada/core/Payload", "size", "()I"⟩ : MethodName)) hown (mvT hZ (hw _ (List.mem_of_getElem? (i := 25) rfl))) (mvT hZ (hw _ (List.mem_of_getElem? (i := 26) rfl))) (notFace_of_selects (args := #[]) (mvT hZ (hw _ (List.mem_of_getElem? (i := 28) rfl)))) (mvT hZ (hw _ (List.mem_of_getElem? (i := 28) rfl))) (mvT hZ (hw _ (List.mem_of_getElem? (i := 27) rfl))) (by decide) (backOf (W := 0) (rm3 l Z a0 hw [] r7 s7 k1 (0 : Int32) [] T26.heap n0 Z26 F31 V32) hZ (hw _ (List.mem_of_getElem? (i := 29) rfl)) (hw _ (List.mem_of_getElem? (i := 4) rfl)) (by decide) (by decide)) qa38 qc38 (g := (mkF m 219 #[.val (.int p1), .val (.int p2), .val (.int p3), .val (.int p4), .val (.int p5), .val (.int (0 : Int32)), .val (.int ev0), .val (.int ev1), .val (.int ev2), .val (.int ev3), .val (.ref a1), .val (.ref r7), .val (.ref r12), .val (.ref r26)] [(.ref r7)])) rfl (by rw [hml]; rfl) (Steps.refl _) (argsL := []) (rest := []) (lenOf pd__28_29I rfl) rfl (by show 2 * 0 + _ ≤ _; exact Nat.le_of_eq rfl) (hb hby at_219) (fun _ _ => ⟨rfl, e36, (by decide : 5 + 0 ≤ _), (by decide : 13 + 0 ≤ _)⟩)
    dsimp only [Pt.U, Pt.locs, Pt.cells, Pt.slots] at X38 ul38 uy38 uz38 st38 hQ38
    subst ul38 uy38 uz38
    obtain ⟨rfl, Nq38, e38⟩ := hQ38
    have N38 := Fr.app N36 Nq38
    have hc224_39 : (0 : Int32) = (0 : Int32) := (by decide)
    refine own_end X38 Bd.notSynchronized (v := some (.int (1 : Int32))) (fun h => by rw [Bd.returns] at h; cases h) (fun fs hr => ?_) e38 ?_ (by decide) (by decide)
    · show Steps p.tables e below (s₁.setTop (mkF m 25 #[.val (.int p1), .val (.int p2), .val (.int p3), .val (.int p4), .val (.int p5), .val (.int (0 : Int32)), .val (.int ev0), .val (.int ev1), .val (.int ev2), .val (.int ev3), .unset, .unset, .unset, .unset] [])) _
      refine XS.iload X0.here hx rfl (hb hby at_25) rfl ?_
      show Steps p.tables e below (s₁.setTop (mkF m 27 #[.val (.int p1), .val (.int p2), .val (.int p3), .val (.int p4), .val (.int p5), .val (.int (0 : Int32)), .val (.int ev0), .val (.int ev1), .val (.int ev2), .val (.int ev3), .unset, .unset, .unset, .unset] [(.int (0 : Int32))])) _
      refine st1 _ ?_
      show Steps p.tables e below (T1.setTop (mkF m 29 #[.val (.int p1), .val (.int p2), .val (.int p3), .val (.int p4), .val (.int p5), .val (.int (0 : Int32)), .val (.int ev0), .val (.int ev1), .val (.int ev2), .val (.int ev3), .unset, .unset, .unset, .unset] [(.ref a1)])) _
      refine XS.astore X1.here hx rfl (hb hby at_29) rfl rfl (l' := #[.val (.int p1), .val (.int p2), .val (.int p3), .val (.int p4), .val (.int p5), .val (.int (0 : Int32)), .val (.int ev0), .val (.int ev1), .val (.int ev2), .val (.int ev3), .val (.ref a1), .unset, .unset, .unset]) rfl ?_
      show Steps p.tables e below (T1.setTop (mkF m 31 #[.val (.int p1), .val (.int p2), .val (.int p3), .val (.int p4), .val (.int p5), .val (.int (0 : Int32)), .val (.int ev0), .val (.int ev1), .val (.int ev2), .val (.int ev3), .val (.ref a1), .unset, .unset, .unset] [])) _
      refine XS.iload X1.here hx rfl (hb hby at_31) rfl ?_
      show Steps p.tables e below (T1.setTop (mkF m 33 #[.val (.int p1), .val (.int p2), .val (.int p3), .val (.int p4), .val (.int p5), .val (.int (0 : Int32)), .val (.int ev0), .val (.int ev1), .val (.int ev2), .val (.int ev3), .val (.ref a1), .unset, .unset, .unset] [(.int (0 : Int32))])) _
      refine XS.ifYes X1.here hx rfl (pc0 := 33) (pc' := 42) rfl (hb hby at_33) rfl ((if0 _ _).trans (flt hc33_3).2.2.2) (by decide) (by decide) ?_
      show Steps p.tables e below (T1.setTop (mkF m 42 #[.val (.int p1), .val (.int p2), .val (.int p3), .val (.int p4), .val (.int p5), .val (.int (0 : Int32)), .val (.int ev0), .val (.int ev1), .val (.int ev2), .val (.int ev3), .val (.ref a1), .unset, .unset, .unset] [])) _
      refine XS.iload X1.here hx rfl (hb hby at_42) rfl ?_
      show Steps p.tables e below (T1.setTop (mkF m 44 #[.val (.int p1), .val (.int p2), .val (.int p3), .val (.int p4), .val (.int p5), .val (.int (0 : Int32)), .val (.int ev0), .val (.int ev1), .val (.int ev2), .val (.int ev3), .val (.ref a1), .unset, .unset, .unset] [(.int (0 : Int32))])) _
      refine XS.iconst X1.here hx rfl (hb hby at_44) ?_
      show Steps p.tables e below (T1.setTop (mkF m 45 #[.val (.int p1), .val (.int p2), .val (.int p3), .val (.int p4), .val (.int p5), .val (.int (0 : Int32)), .val (.int ev0), .val (.int ev1), .val (.int ev2), .val (.int ev3), .val (.ref a1), .unset, .unset, .unset] [(.int (1 : Int32)), (.int (0 : Int32))])) _
      refine XS.icmpYes X1.here hx rfl (pc0 := 45) (pc' := 54) rfl (hb hby at_45) rfl (flt hc45_4).2.2.2 (by decide) (by decide) ?_
      show Steps p.tables e below (T1.setTop (mkF m 54 #[.val (.int p1), .val (.int p2), .val (.int p3), .val (.int p4), .val (.int p5), .val (.int (0 : Int32)), .val (.int ev0), .val (.int ev1), .val (.int ev2), .val (.int ev3), .val (.ref a1), .unset, .unset, .unset] [])) _
      refine XS.iload X1.here hx rfl (hb hby at_54) rfl ?_
      show Steps p.tables e below (T1.setTop (mkF m 56 #[.val (.int p1), .val (.int p2), .val (.int p3), .val (.int p4), .val (.int p5), .val (.int (0 : Int32)), .val (.int ev0), .val (.int ev1), .val (.int ev2), .val (.int ev3), .val (.ref a1), .unset, .unset, .unset] [(.int (0 : Int32))])) _
      refine XS.iconst X1.here hx rfl (hb hby at_56) ?_
      show Steps p.tables e below (T1.setTop (mkF m 57 #[.val (.int p1), .val (.int p2), .val (.int p3), .val (.int p4), .val (.int p5), .val (.int (0 : Int32)), .val (.int ev0), .val (.int ev1), .val (.int ev2), .val (.int ev3), .val (.ref a1), .unset, .unset, .unset] [(.int (2 : Int32)), (.int (0 : Int32))])) _
      refine XS.icmpYes X1.here hx rfl (pc0 := 57) (pc' := 66) rfl (hb hby at_57) rfl (flt hc57_5).2.2.2 (by decide) (by decide) ?_
      show Steps p.tables e below (T1.setTop (mkF m 66 #[.val (.int p1), .val (.int p2), .val (.int p3), .val (.int p4), .val (.int p5), .val (.int (0 : Int32)), .val (.int ev0), .val (.int ev1), .val (.int ev2), .val (.int ev3), .val (.ref a1), .unset, .unset, .unset] [])) _
      refine XS.iload X1.here hx rfl (hb hby at_66) rfl ?_
      show Steps p.tables e below (T1.setTop (mkF m 68 #[.val (.int p1), .val (.int p2), .val (.int p3), .val (.int p4), .val (.int p5), .val (.int (0 : Int32)), .val (.int ev0), .val (.int ev1), .val (.int ev2), .val (.int ev3), .val (.ref a1), .unset, .unset, .unset] [(.int (0 : Int32))])) _
      refine XS.iconst X1.here hx rfl (hb hby at_68) ?_
      show Steps p.tables e below (T1.setTop (mkF m 69 #[.val (.int p1), .val (.int p2), .val (.int p3), .val (.int p4), .val (.int p5), .val (.int (0 : Int32)), .val (.int ev0), .val (.int ev1), .val (.int ev2), .val (.int ev3), .val (.ref a1), .unset, .unset, .unset] [(.int (3 : Int32)), (.int (0 : Int32))])) _
      refine XS.icmpYes X1.here hx rfl (pc0 := 69) (pc' := 78) rfl (hb hby at_69) rfl (flt hc69_6).2.2.2 (by decide) (by decide) ?_
      show Steps p.tables e below (T1.setTop (mkF m 78 #[.val (.int p1), .val (.int p2), .val (.int p3), .val (.int p4), .val (.int p5), .val (.int (0 : Int32)), .val (.int ev0), .val (.int ev1), .val (.int ev2), .val (.int ev3), .val (.ref a1), .unset, .unset, .unset] [])) _
      refine XS.aload X1.here hx rfl (hb hby at_78) rfl rfl ?_
      show Steps p.tables e below (T1.setTop (mkF m 80 #[.val (.int p1), .val (.int p2), .val (.int p3), .val (.int p4), .val (.int p5), .val (.int (0 : Int32)), .val (.int ev0), .val (.int ev1), .val (.int ev2), .val (.int ev3), .val (.ref a1), .unset, .unset, .unset] [(.ref a1)])) _
      refine st7 _ ?_
      show Steps p.tables e below (T7.setTop (mkF m 83 #[.val (.int p1), .val (.int p2), .val (.int p3), .val (.int p4), .val (.int p5), .val (.int (0 : Int32)), .val (.int ev0), .val (.int ev1), .val (.int ev2), .val (.int ev3), .val (.ref a1), .unset, .unset, .unset] [(.ref r7)])) _
      refine XS.astore X7.here hx rfl (hb hby at_83) rfl rfl (l' := #[.val (.int p1), .val (.int p2), .val (.int p3), .val (.int p4), .val (.int p5), .val (.int (0 : Int32)), .val (.int ev0), .val (.int ev1), .val (.int ev2), .val (.int ev3), .val (.ref a1), .val (.ref r7), .unset, .unset]) rfl ?_
      show Steps p.tables e below (T7.setTop (mkF m 85 #[.val (.int p1), .val (.int p2), .val (.int p3), .val (.int p4), .val (.int p5), .val (.int (0 : Int32)), .val (.int ev0), .val (.int ev1), .val (.int ev2), .val (.int ev3), .val (.ref a1), .val (.ref r7), .unset, .unset] [])) _
      refine XS.aload X7.here hx rfl (hb hby at_85) rfl rfl ?_
      show Steps p.tables e below (T7.setTop (mkF m 87 #[.val (.int p1), .val (.int p2), .val (.int p3), .val (.int p4), .val (.int p5), .val (.int (0 : Int32)), .val (.int ev0), .val (.int ev1), .val (.int ev2), .val (.int ev3), .val (.ref a1), .val (.ref r7), .unset, .unset] [(.ref r7)])) _
      refine XS.ifnonnullYes X7.here hx rfl (pc0 := 87) (pc' := 92) rfl (hb hby at_87) rfl (by decide) (by decide) ?_
      show Steps p.tables e below (T7.setTop (mkF m 92 #[.val (.int p1), .val (.int p2), .val (.int p3), .val (.int p4), .val (.int p5), .val (.int (0 : Int32)), .val (.int ev0), .val (.int ev1), .val (.int ev2), .val (.int ev3), .val (.ref a1), .val (.ref r7), .unset, .unset] [])) _
      refine XS.aload X7.here hx rfl (hb hby at_92) rfl rfl ?_
      show Steps p.tables e below (T7.setTop (mkF m 94 #[.val (.int p1), .val (.int p2), .val (.int p3), .val (.int p4), .val (.int p5), .val (.int (0 : Int32)), .val (.int ev0), .val (.int ev1), .val (.int ev2), .val (.int ev3), .val (.ref a1), .val (.ref r7), .unset, .unset] [(.ref r7)])) _
      refine st10.trans ?_
      show Steps p.tables e below (T10.setTop (mkF m 97 #[.val (.int p1), .val (.int p2), .val (.int p3), .val (.int p4), .val (.int p5), .val (.int (0 : Int32)), .val (.int ev0), .val (.int ev1), .val (.int ev2), .val (.int ev3), .val (.ref a1), .val (.ref r7), .unset, .unset] [(.int (0 : Int32))])) _
      refine XS.iload X10.here hx rfl (hb hby at_97) rfl ?_
      show Steps p.tables e below (T10.setTop (mkF m 99 #[.val (.int p1), .val (.int p2), .val (.int p3), .val (.int p4), .val (.int p5), .val (.int (0 : Int32)), .val (.int ev0), .val (.int ev1), .val (.int ev2), .val (.int ev3), .val (.ref a1), .val (.ref r7), .unset, .unset] [(.int (0 : Int32)), (.int (0 : Int32))])) _
      refine XS.icmpYes X10.here hx rfl (pc0 := 99) (pc' := 104) rfl (hb hby at_99) rfl (teq hc99_11).1 (by decide) (by decide) ?_
      show Steps p.tables e below (T10.setTop (mkF m 104 #[.val (.int p1), .val (.int p2), .val (.int p3), .val (.int p4), .val (.int p5), .val (.int (0 : Int32)), .val (.int ev0), .val (.int ev1), .val (.int ev2), .val (.int ev3), .val (.ref a1), .val (.ref r7), .unset, .unset] [])) _
      refine XS.aload X10.here hx rfl (hb hby at_104) rfl rfl ?_
      show Steps p.tables e below (T10.setTop (mkF m 106 #[.val (.int p1), .val (.int p2), .val (.int p3), .val (.int p4), .val (.int p5), .val (.int (0 : Int32)), .val (.int ev0), .val (.int ev1), .val (.int ev2), .val (.int ev3), .val (.ref a1), .val (.ref r7), .unset, .unset] [(.ref r7)])) _
      refine st12.trans ?_
      show Steps p.tables e below (T12.setTop (mkF m 109 #[.val (.int p1), .val (.int p2), .val (.int p3), .val (.int p4), .val (.int p5), .val (.int (0 : Int32)), .val (.int ev0), .val (.int ev1), .val (.int ev2), .val (.int ev3), .val (.ref a1), .val (.ref r7), .unset, .unset] [(.ref r12)])) _
      refine XS.astore X12.here hx rfl (hb hby at_109) rfl rfl (l' := #[.val (.int p1), .val (.int p2), .val (.int p3), .val (.int p4), .val (.int p5), .val (.int (0 : Int32)), .val (.int ev0), .val (.int ev1), .val (.int ev2), .val (.int ev3), .val (.ref a1), .val (.ref r7), .val (.ref r12), .unset]) rfl ?_
      show Steps p.tables e below (T12.setTop (mkF m 111 #[.val (.int p1), .val (.int p2), .val (.int p3), .val (.int p4), .val (.int p5), .val (.int (0 : Int32)), .val (.int ev0), .val (.int ev1), .val (.int ev2), .val (.int ev3), .val (.ref a1), .val (.ref r7), .val (.ref r12), .unset] [])) _
      refine XS.aload X12.here hx rfl (hb hby at_111) rfl rfl ?_
      show Steps p.tables e below (T12.setTop (mkF m 113 #[.val (.int p1), .val (.int p2), .val (.int p3), .val (.int p4), .val (.int p5), .val (.int (0 : Int32)), .val (.int ev0), .val (.int ev1), .val (.int ev2), .val (.int ev3), .val (.ref a1), .val (.ref r7), .val (.ref r12), .unset] [(.ref r12)])) _
      refine XS.iload X12.here hx rfl (hb hby at_113) rfl ?_
      show Steps p.tables e below (T12.setTop (mkF m 115 #[.val (.int p1), .val (.int p2), .val (.int p3), .val (.int p4), .val (.int p5), .val (.int (0 : Int32)), .val (.int ev0), .val (.int ev1), .val (.int ev2), .val (.int ev3), .val (.ref a1), .val (.ref r7), .val (.ref r12), .unset] [(.int (0 : Int32)), (.ref r12)])) _
      refine XS.iload X12.here hx rfl (hb hby at_115) rfl ?_
      show Steps p.tables e below (T12.setTop (mkF m 117 #[.val (.int p1), .val (.int p2), .val (.int p3), .val (.int p4), .val (.int p5), .val (.int (0 : Int32)), .val (.int ev0), .val (.int ev1), .val (.int ev2), .val (.int ev3), .val (.ref a1), .val (.ref r7), .val (.ref r12), .unset] [(.int ev0), (.int (0 : Int32)), (.ref r12)])) _
      refine XS.iload X12.here hx rfl (hb hby at_117) rfl ?_
      show Steps p.tables e below (T12.setTop (mkF m 119 #[.val (.int p1), .val (.int p2), .val (.int p3), .val (.int p4), .val (.int p5), .val (.int (0 : Int32)), .val (.int ev0), .val (.int ev1), .val (.int ev2), .val (.int ev3), .val (.ref a1), .val (.ref r7), .val (.ref r12), .unset] [(.int ev1), (.int ev0), (.int (0 : Int32)), (.ref r12)])) _
      refine XS.iload X12.here hx rfl (hb hby at_119) rfl ?_
      show Steps p.tables e below (T12.setTop (mkF m 121 #[.val (.int p1), .val (.int p2), .val (.int p3), .val (.int p4), .val (.int p5), .val (.int (0 : Int32)), .val (.int ev0), .val (.int ev1), .val (.int ev2), .val (.int ev3), .val (.ref a1), .val (.ref r7), .val (.ref r12), .unset] [(.int ev2), (.int ev1), (.int ev0), (.int (0 : Int32)), (.ref r12)])) _
      refine XS.iload X12.here hx rfl (hb hby at_121) rfl ?_
      show Steps p.tables e below (T12.setTop (mkF m 123 #[.val (.int p1), .val (.int p2), .val (.int p3), .val (.int p4), .val (.int p5), .val (.int (0 : Int32)), .val (.int ev0), .val (.int ev1), .val (.int ev2), .val (.int ev3), .val (.ref a1), .val (.ref r7), .val (.ref r12), .unset] [(.int ev3), (.int ev2), (.int ev1), (.int ev0), (.int (0 : Int32)), (.ref r12)])) _
      refine st20 _ ?_
      show Steps p.tables e below (T20.setTop (mkF m 126 #[.val (.int p1), .val (.int p2), .val (.int p3), .val (.int p4), .val (.int p5), .val (.int (0 : Int32)), .val (.int ev0), .val (.int ev1), .val (.int ev2), .val (.int ev3), .val (.ref a1), .val (.ref r7), .val (.ref r12), .unset] [(.int (own_same_0 (fun i => ([] : List Int32).getD i 0) (0 : Int32) (0 : Int32) ev0 ev1 ev2 ev3))])) _
      refine XS.ifYes X20.here hx rfl (pc0 := 126) (pc' := 131) rfl (hb hby at_126) rfl ((if0 _ _).trans (feq hc126_21).2) (by decide) (by decide) ?_
      show Steps p.tables e below (T20.setTop (mkF m 131 #[.val (.int p1), .val (.int p2), .val (.int p3), .val (.int p4), .val (.int p5), .val (.int (0 : Int32)), .val (.int ev0), .val (.int ev1), .val (.int ev2), .val (.int ev3), .val (.ref a1), .val (.ref r7), .val (.ref r12), .unset] [])) _
      refine XS.iload X20.here hx rfl (hb hby at_131) rfl ?_
      show Steps p.tables e below (T20.setTop (mkF m 133 #[.val (.int p1), .val (.int p2), .val (.int p3), .val (.int p4), .val (.int p5), .val (.int (0 : Int32)), .val (.int ev0), .val (.int ev1), .val (.int ev2), .val (.int ev3), .val (.ref a1), .val (.ref r7), .val (.ref r12), .unset] [(.int (0 : Int32))])) _
      refine XS.ifYes X20.here hx rfl (pc0 := 133) (pc' := 145) rfl (hb hby at_133) rfl ((if0 _ _).trans (flt hc133_22).2.2.2) (by decide) (by decide) ?_
      show Steps p.tables e below (T20.setTop (mkF m 145 #[.val (.int p1), .val (.int p2), .val (.int p3), .val (.int p4), .val (.int p5), .val (.int (0 : Int32)), .val (.int ev0), .val (.int ev1), .val (.int ev2), .val (.int ev3), .val (.ref a1), .val (.ref r7), .val (.ref r12), .unset] [])) _
      refine XS.iload X20.here hx rfl (hb hby at_145) rfl ?_
      show Steps p.tables e below (T20.setTop (mkF m 147 #[.val (.int p1), .val (.int p2), .val (.int p3), .val (.int p4), .val (.int p5), .val (.int (0 : Int32)), .val (.int ev0), .val (.int ev1), .val (.int ev2), .val (.int ev3), .val (.ref a1), .val (.ref r7), .val (.ref r12), .unset] [(.int (0 : Int32))])) _
      refine XS.iconst X20.here hx rfl (hb hby at_147) ?_
      show Steps p.tables e below (T20.setTop (mkF m 148 #[.val (.int p1), .val (.int p2), .val (.int p3), .val (.int p4), .val (.int p5), .val (.int (0 : Int32)), .val (.int ev0), .val (.int ev1), .val (.int ev2), .val (.int ev3), .val (.ref a1), .val (.ref r7), .val (.ref r12), .unset] [(.int (1 : Int32)), (.int (0 : Int32))])) _
      refine XS.icmpYes X20.here hx rfl (pc0 := 148) (pc' := 160) rfl (hb hby at_148) rfl (flt hc148_23).2.2.2 (by decide) (by decide) ?_
      show Steps p.tables e below (T20.setTop (mkF m 160 #[.val (.int p1), .val (.int p2), .val (.int p3), .val (.int p4), .val (.int p5), .val (.int (0 : Int32)), .val (.int ev0), .val (.int ev1), .val (.int ev2), .val (.int ev3), .val (.ref a1), .val (.ref r7), .val (.ref r12), .unset] [])) _
      refine XS.iload X20.here hx rfl (hb hby at_160) rfl ?_
      show Steps p.tables e below (T20.setTop (mkF m 162 #[.val (.int p1), .val (.int p2), .val (.int p3), .val (.int p4), .val (.int p5), .val (.int (0 : Int32)), .val (.int ev0), .val (.int ev1), .val (.int ev2), .val (.int ev3), .val (.ref a1), .val (.ref r7), .val (.ref r12), .unset] [(.int (0 : Int32))])) _
      refine XS.iconst X20.here hx rfl (hb hby at_162) ?_
      show Steps p.tables e below (T20.setTop (mkF m 163 #[.val (.int p1), .val (.int p2), .val (.int p3), .val (.int p4), .val (.int p5), .val (.int (0 : Int32)), .val (.int ev0), .val (.int ev1), .val (.int ev2), .val (.int ev3), .val (.ref a1), .val (.ref r7), .val (.ref r12), .unset] [(.int (2 : Int32)), (.int (0 : Int32))])) _
      refine XS.icmpYes X20.here hx rfl (pc0 := 163) (pc' := 175) rfl (hb hby at_163) rfl (flt hc163_24).2.2.2 (by decide) (by decide) ?_
      show Steps p.tables e below (T20.setTop (mkF m 175 #[.val (.int p1), .val (.int p2), .val (.int p3), .val (.int p4), .val (.int p5), .val (.int (0 : Int32)), .val (.int ev0), .val (.int ev1), .val (.int ev2), .val (.int ev3), .val (.ref a1), .val (.ref r7), .val (.ref r12), .unset] [])) _
      refine XS.iload X20.here hx rfl (hb hby at_175) rfl ?_
      show Steps p.tables e below (T20.setTop (mkF m 177 #[.val (.int p1), .val (.int p2), .val (.int p3), .val (.int p4), .val (.int p5), .val (.int (0 : Int32)), .val (.int ev0), .val (.int ev1), .val (.int ev2), .val (.int ev3), .val (.ref a1), .val (.ref r7), .val (.ref r12), .unset] [(.int (0 : Int32))])) _
      refine XS.iconst X20.here hx rfl (hb hby at_177) ?_
      show Steps p.tables e below (T20.setTop (mkF m 178 #[.val (.int p1), .val (.int p2), .val (.int p3), .val (.int p4), .val (.int p5), .val (.int (0 : Int32)), .val (.int ev0), .val (.int ev1), .val (.int ev2), .val (.int ev3), .val (.ref a1), .val (.ref r7), .val (.ref r12), .unset] [(.int (3 : Int32)), (.int (0 : Int32))])) _
      refine XS.icmpYes X20.here hx rfl (pc0 := 178) (pc' := 190) rfl (hb hby at_178) rfl (flt hc178_25).2.2.2 (by decide) (by decide) ?_
      show Steps p.tables e below (T20.setTop (mkF m 190 #[.val (.int p1), .val (.int p2), .val (.int p3), .val (.int p4), .val (.int p5), .val (.int (0 : Int32)), .val (.int ev0), .val (.int ev1), .val (.int ev2), .val (.int ev3), .val (.ref a1), .val (.ref r7), .val (.ref r12), .unset] [])) _
      refine XS.aload X20.here hx rfl (hb hby at_190) rfl rfl ?_
      show Steps p.tables e below (T20.setTop (mkF m 192 #[.val (.int p1), .val (.int p2), .val (.int p3), .val (.int p4), .val (.int p5), .val (.int (0 : Int32)), .val (.int ev0), .val (.int ev1), .val (.int ev2), .val (.int ev3), .val (.ref a1), .val (.ref r7), .val (.ref r12), .unset] [(.ref r7)])) _
      refine st26.trans ?_
      show Steps p.tables e below (T26.setTop (mkF m 195 #[.val (.int p1), .val (.int p2), .val (.int p3), .val (.int p4), .val (.int p5), .val (.int (0 : Int32)), .val (.int ev0), .val (.int ev1), .val (.int ev2), .val (.int ev3), .val (.ref a1), .val (.ref r7), .val (.ref r12), .unset] [(.ref r26)])) _
      refine XS.astore X26.here hx rfl (hb hby at_195) rfl rfl (l' := #[.val (.int p1), .val (.int p2), .val (.int p3), .val (.int p4), .val (.int p5), .val (.int (0 : Int32)), .val (.int ev0), .val (.int ev1), .val (.int ev2), .val (.int ev3), .val (.ref a1), .val (.ref r7), .val (.ref r12), .val (.ref r26)]) rfl ?_
      show Steps p.tables e below (T26.setTop (mkF m 197 #[.val (.int p1), .val (.int p2), .val (.int p3), .val (.int p4), .val (.int p5), .val (.int (0 : Int32)), .val (.int ev0), .val (.int ev1), .val (.int ev2), .val (.int ev3), .val (.ref a1), .val (.ref r7), .val (.ref r12), .val (.ref r26)] [])) _
      refine XS.aload X26.here hx rfl (hb hby at_197) rfl rfl ?_
      show Steps p.tables e below (T26.setTop (mkF m 199 #[.val (.int p1), .val (.int p2), .val (.int p3), .val (.int p4), .val (.int p5), .val (.int (0 : Int32)), .val (.int ev0), .val (.int ev1), .val (.int ev2), .val (.int ev3), .val (.ref a1), .val (.ref r7), .val (.ref r12), .val (.ref r26)] [(.ref r26)])) _
      refine XS.iload X26.here hx rfl (hb hby at_199) rfl ?_
      show Steps p.tables e below (T26.setTop (mkF m 201 #[.val (.int p1), .val (.int p2), .val (.int p3), .val (.int p4), .val (.int p5), .val (.int (0 : Int32)), .val (.int ev0), .val (.int ev1), .val (.int ev2), .val (.int ev3), .val (.ref a1), .val (.ref r7), .val (.ref r12), .val (.ref r26)] [(.int (0 : Int32)), (.ref r26)])) _
      refine XS.iload X26.here hx rfl (hb hby at_201) rfl ?_
      show Steps p.tables e below (T26.setTop (mkF m 203 #[.val (.int p1), .val (.int p2), .val (.int p3), .val (.int p4), .val (.int p5), .val (.int (0 : Int32)), .val (.int ev0), .val (.int ev1), .val (.int ev2), .val (.int ev3), .val (.ref a1), .val (.ref r7), .val (.ref r12), .val (.ref r26)] [(.int ev0), (.int (0 : Int32)), (.ref r26)])) _
      refine XS.iload X26.here hx rfl (hb hby at_203) rfl ?_
      show Steps p.tables e below (T26.setTop (mkF m 205 #[.val (.int p1), .val (.int p2), .val (.int p3), .val (.int p4), .val (.int p5), .val (.int (0 : Int32)), .val (.int ev0), .val (.int ev1), .val (.int ev2), .val (.int ev3), .val (.ref a1), .val (.ref r7), .val (.ref r12), .val (.ref r26)] [(.int ev1), (.int ev0), (.int (0 : Int32)), (.ref r26)])) _
      refine XS.iload X26.here hx rfl (hb hby at_205) rfl ?_
      show Steps p.tables e below (T26.setTop (mkF m 207 #[.val (.int p1), .val (.int p2), .val (.int p3), .val (.int p4), .val (.int p5), .val (.int (0 : Int32)), .val (.int ev0), .val (.int ev1), .val (.int ev2), .val (.int ev3), .val (.ref a1), .val (.ref r7), .val (.ref r12), .val (.ref r26)] [(.int ev2), (.int ev1), (.int ev0), (.int (0 : Int32)), (.ref r26)])) _
      refine XS.iload X26.here hx rfl (hb hby at_207) rfl ?_
      show Steps p.tables e below (T26.setTop (mkF m 209 #[.val (.int p1), .val (.int p2), .val (.int p3), .val (.int p4), .val (.int p5), .val (.int (0 : Int32)), .val (.int ev0), .val (.int ev1), .val (.int ev2), .val (.int ev3), .val (.ref a1), .val (.ref r7), .val (.ref r12), .val (.ref r26)] [(.int ev3), (.int ev2), (.int ev1), (.int ev0), (.int (0 : Int32)), (.ref r26)])) _
      refine st36 _ ?_
      show Steps p.tables e below (T36.setTop (mkF m 212 #[.val (.int p1), .val (.int p2), .val (.int p3), .val (.int p4), .val (.int p5), .val (.int (0 : Int32)), .val (.int ev0), .val (.int ev1), .val (.int ev2), .val (.int ev3), .val (.ref a1), .val (.ref r7), .val (.ref r12), .val (.ref r26)] [(.int (own_same_0 (fun i => ([] : List Int32).getD i 0) (0 : Int32) (0 : Int32) ev0 ev1 ev2 ev3))])) _
      refine XS.ifYes X36.here hx rfl (pc0 := 212) (pc' := 217) rfl (hb hby at_212) rfl ((if0 _ _).trans (feq hc212_37).2) (by decide) (by decide) ?_
      show Steps p.tables e below (T36.setTop (mkF m 217 #[.val (.int p1), .val (.int p2), .val (.int p3), .val (.int p4), .val (.int p5), .val (.int (0 : Int32)), .val (.int ev0), .val (.int ev1), .val (.int ev2), .val (.int ev3), .val (.ref a1), .val (.ref r7), .val (.ref r12), .val (.ref r26)] [])) _
      refine XS.aload X36.here hx rfl (hb hby at_217) rfl rfl ?_
      show Steps p.tables e below (T36.setTop (mkF m 219 #[.val (.int p1), .val (.int p2), .val (.int p3), .val (.int p4), .val (.int p5), .val (.int (0 : Int32)), .val (.int ev0), .val (.int ev1), .val (.int ev2), .val (.int ev3), .val (.ref a1), .val (.ref r7), .val (.ref r12), .val (.ref r26)] [(.ref r7)])) _
      refine st38.trans ?_
      show Steps p.tables e below (T38.setTop (mkF m 222 #[.val (.int p1), .val (.int p2), .val (.int p3), .val (.int p4), .val (.int p5), .val (.int (0 : Int32)), .val (.int ev0), .val (.int ev1), .val (.int ev2), .val (.int ev3), .val (.ref a1), .val (.ref r7), .val (.ref r12), .val (.ref r26)] [(.int (0 : Int32))])) _
      refine XS.iload X38.here hx rfl (hb hby at_222) rfl ?_
      show Steps p.tables e below (T38.setTop (mkF m 224 #[.val (.int p1), .val (.int p2), .val (.int p3), .val (.int p4), .val (.int p5), .val (.int (0 : Int32)), .val (.int ev0), .val (.int ev1), .val (.int ev2), .val (.int ev3), .val (.ref a1), .val (.ref r7), .val (.ref r12), .val (.ref r26)] [(.int (0 : Int32)), (.int (0 : Int32))])) _
      refine XS.icmpNo X38.here hx rfl (hb hby at_224) rfl (teq hc224_39).2 ?_
      show Steps p.tables e below (T38.setTop (mkF m 227 #[.val (.int p1), .val (.int p2), .val (.int p3), .val (.int p4), .val (.int p5), .val (.int (0 : Int32)), .val (.int ev0), .val (.int ev1), .val (.int ev2), .val (.int ev3), .val (.ref a1), .val (.ref r7), .val (.ref r12), .val (.ref r26)] [])) _
      refine XS.iconst X38.here hx rfl (hb hby at_227) ?_
      show Steps p.tables e below (T38.setTop (mkF m 228 #[.val (.int p1), .val (.int p2), .val (.int p3), .val (.int p4), .val (.int p5), .val (.int (0 : Int32)), .val (.int ev0), .val (.int ev1), .val (.int ev2), .val (.int ev3), .val (.ref a1), .val (.ref r7), .val (.ref r12), .val (.ref r26)] [(.int (1 : Int32))])) _
      refine XS.goto X38.here hx rfl (pc0 := 228) (pc' := 232) rfl (hb hby at_228) (by decide) (by decide) ?_
      show Steps p.tables e below (T38.setTop (mkF m 232 #[.val (.int p1), .val (.int p2), .val (.int p3), .val (.int p4), .val (.int p5), .val (.int (0 : Int32)), .val (.int ev0), .val (.int ev1), .val (.int ev2), .val (.int ev3), .val (.ref a1), .val (.ref r7), .val (.ref r12), .val (.ref r26)] [(.int (1 : Int32))])) _
      exact retN X38 hx (t := .boolean) Bd.returns (by simp) (hb hby at_232) hr
    · exact ⟨rfl, N38⟩
  · obtain ⟨T40, h40, k40, X40, e40, E40, A40, B40, st40⟩ := newPE X0 hx hZ (hw _ (List.mem_of_getElem? (i := 1) rfl)) e0 (g := (mkF m 27 #[.val (.int p1), .val (.int p2), .val (.int p3), .val (.int p4), .val (.int p5), .val (.int (1 : Int32)), .val (.int ev0), .val (.int ev1), .val (.int ev2), .val (.int ev3), .unset, .unset, .unset, .unset] [(.int (1 : Int32))])) rfl (hb hby at_27) rfl (by decide) (cap := 1) (by decide) (by decide) (by decide) (by decide) (ad := "[B") (by first | rfl | decide +kernel)
    obtain ⟨a40, ga40⟩ : ∃ z, z = h0.size := ⟨_, rfl⟩
    rw [← ga40] at A40 B40 st40
    have lo40 : n0 ≤ a40 := Nat.le_trans Z0 (Nat.le_of_eq ga40.symm)
    have Z40 : n0 ≤ h40.size := Nat.le_trans Z0 E40.1
    have V41 : Arv Z h40 a40 k40 .byte (1 : Int32) [(.int (0 : Int32))] (.int (0 : Int32)) := (Arv.new A40 (by decide)).pad (pad_rep [] (.int (0 : Int32)) 1)
    have hc33_42 : (0 : Int32) < (1 : Int32) := (by decide)
    obtain ⟨cl43, Ar43, q43, S43, M43, H43, U43⟩ := id V41
    obtain ⟨T44, h44, X44, e44, W44, st44⟩ := stB X40 hx hZ e40 Ar43 (j := (0 : Int32)) (by rw [S43]; decide) (g := (mkF m 41 #[.val (.int p1), .val (.int p2), .val (.int p3), .val (.int p4), .val (.int p5), .val (.int (1 : Int32)), .val (.int ev0), .val (.int ev1), .val (.int ev2), .val (.int ev3), .val (.ref a40), .unset, .unset, .unset] [(.int ev0), (.int (0 : Int32)), (.ref a40)])) rfl rfl (hb hby at_41)
    have N44 := Fr.snoc X44 N0 lo40
    have V45 : Arv Z h44 a40 k40 .byte (1 : Int32) [(.int (nar .byte ev0))] (.int (0 : Int32)) := Arv.set Ar43 q43 S43 M43 H43 U43 (fits_nar_byte _) W44 0 rfl (by show 0 < 1; decide)
    rw [hb96] at V45
    have E46 := B40.wr W44
    have Z44 : n0 ≤ h44.size := by rw [W44.size]; exact Z40
    have hc45_47 : ¬ ((1 : Int32) < (1 : Int32)) := (by decide)
    have hc57_48 : ¬ ((2 : Int32) < (1 : Int32)) := (by decide)
    have hc69_49 : ¬ ((3 : Int32) < (1 : Int32)) := (by decide)
    obtain ⟨_, _, ⟨T50, uL50, uk50, un50⟩, -, X50, ⟨Lc50, hQ50, ul50, uy50, uz50⟩, st50⟩ := Jvm.LawKit.callS X44 hx (y := (⟨"com/example/cicada/cicada/core/Payload", "of", "([B)Lcom/example/cicada/cicada/core/Payload;"⟩ : MethodName)) hown (mvT hZ (hw _ (List.mem_of_getElem? (i := 2) rfl))) (mvT hZ (hw _ (List.mem_of_getElem? (i := 3) rfl))) (mvT hZ (hw _ (List.mem_of_getElem? (i := 4) rfl))) (mvT hZ (hw _ (List.mem_of_getElem? (i := 5) rfl))) (by decide) (backOf (W := 0) (rm2 l Z a0 hw [] a40 k40 (1 : Int32) [(.int ev0)] h44 n0 Z44 V45 E46 (by decide)) hZ (hw _ (List.mem_of_getElem? (i := 5) rfl)) (hw _ (List.mem_of_getElem? (i := 4) rfl)) (by decide) (by decide)) (g := (mkF m 80 #[.val (.int p1), .val (.int p2), .val (.int p3), .val (.int p4), .val (.int p5), .val (.int (1 : Int32)), .val (.int ev0), .val (.int ev1), .val (.int ev2), .val (.int ev3), .val (.ref a40), .unset, .unset, .unset] [(.ref a40)])) rfl (by rw [hml]; rfl) (argsL := [(.ref a40)]) (rest := []) (lenOf pd__28_5bB_29Lcom_2fexample_2fcicada_2fcicada_2fcore_2fPayload_3b rfl) rfl (by show 2 * 0 + _ ≤ _; exact Nat.le_of_eq rfl) (hb hby at_80) (fun _ _ => ⟨rfl, e44, (by decide : 1 + 2 ≤ _), (by decide : 1 + 5 ≤ _)⟩)
    dsimp only [Pt.U, Pt.locs, Pt.cells, Pt.slots] at X50 ul50 uy50 uz50 st50 hQ50
    subst ul50 uy50 uz50
    obtain ⟨r50, s50, rfl, Nq50, K50, ge50, lt50, Er50, Fr50, Es50, Vs50⟩ := hQ50
    have lr50_a40 : a40 < r50 := Nat.lt_of_lt_of_le E46.lt ge50
    have ls50_a40 : a40 < s50 := Nat.lt_trans lr50_a40 lt50
    have E51 := E46.keep K50
    have V52 := V45.keep K50 nin0
    have Z50 : n0 ≤ T50.heap.size := Nat.le_trans Z44 K50.1
    have N50 := Fr.app N44 Nq50
    obtain ⟨cq53, kq53, qa53, qb53, qc53⟩ := isOf hZ rfl Er50
    obtain ⟨_, _, ⟨T53, uL53, uk53, un53⟩, -, X53, ⟨Lc53, hQ53, ul53, uy53, uz53⟩, st53⟩ := X50.virtualBack hx (y := (⟨"com/example/cicada/cicada/core/Payload", "size", "()I"⟩ : MethodName)) (z := (⟨"com/example/cicada/cicada/core/Payload", "size", "()I"⟩ : MethodName)) hown (mvT hZ (hw _ (List.mem_of_getElem? (i := 25) rfl))) (mvT hZ (hw _ (List.mem_of_getElem? (i := 26) rfl))) (notFace_of_selects (args := #[]) (mvT hZ (hw _ (List.mem_of_getElem? (i := 28) rfl)))) (mvT hZ (hw _ (List.mem_of_getElem? (i := 28) rfl))) (mvT hZ (hw _ (List.mem_of_getElem? (i := 27) rfl))) (by decide) (backOf (W := 0) (rm3 l Z a0 hw [] r50 s50 k40 (1 : Int32) [(.int ev0)] T50.heap n0 Z50 Fr50 Vs50) hZ (hw _ (List.mem_of_getElem? (i := 29) rfl)) (hw _ (List.mem_of_getElem? (i := 4) rfl)) (by decide) (by decide)) qa53 qc53 (g := (mkF m 94 #[.val (.int p1), .val (.int p2), .val (.int p3), .val (.int p4), .val (.int p5), .val (.int (1 : Int32)), .val (.int ev0), .val (.int ev1), .val (.int ev2), .val (.int ev3), .val (.ref a40), .val (.ref r50), .unset, .unset] [(.ref r50)])) rfl (by rw [hml]; rfl) (Steps.refl _) (argsL := []) (rest := []) (lenOf pd__28_29I rfl) rfl (by show 2 * 0 + _ ≤ _; exact Nat.le_of_eq rfl) (hb hby at_94) (fun _ _ => ⟨rfl, rfl, (by decide : 3 + 0 ≤ _), (by decide : 6 + 0 ≤ _)⟩)
    dsimp only [Pt.U, Pt.locs, Pt.cells, Pt.slots] at X53 ul53 uy53 uz53 st53 hQ53
    subst ul53 uy53 uz53
    obtain ⟨rfl, Nq53, e53⟩ := hQ53
    have N53 := Fr.app N50 Nq53
    have hc99_54 : (1 : Int32) = (1 : Int32) := (by decide)
    obtain ⟨cq55, kq55, qa55, qb55, qc55⟩ := isOf hZ e53 Er50
    obtain ⟨_, _, ⟨T55, uL55, uk55, un55⟩, -, X55, ⟨Lc55, hQ55, ul55, uy55, uz55⟩, st55⟩ := X53.virtualBack hx (y := (⟨"com/example/cicada/cicada/core/Payload", "bytes", "()[B"⟩ : MethodName)) (z := (⟨"com/example/cicada/cicada/core/Payload", "bytes", "()[B"⟩ : MethodName)) hown (mvT hZ (hw _ (List.mem_of_getElem? (i := 30) rfl))) (mvT hZ (hw _ (List.mem_of_getElem? (i := 31) rfl))) (notFace_of_selects (args := #[]) (mvT hZ (hw _ (List.mem_of_getElem? (i := 33) rfl)))) (mvT hZ (hw _ (List.mem_of_getElem? (i := 33) rfl))) (mvT hZ (hw _ (List.mem_of_getElem? (i := 32) rfl))) (by decide) (backOf (W := 0) (rm4 l Z a0 hw [] r50 s50 k40 (1 : Int32) [(.int ev0)] T50.heap n0 Z50 Fr50 Vs50 Es50 (by decide)) hZ (hw _ (List.mem_of_getElem? (i := 34) rfl)) (hw _ (List.mem_of_getElem? (i := 4) rfl)) (by decide) (by decide)) qa55 qc55 (g := (mkF m 106 #[.val (.int p1), .val (.int p2), .val (.int p3), .val (.int p4), .val (.int p5), .val (.int (1 : Int32)), .val (.int ev0), .val (.int ev1), .val (.int ev2), .val (.int ev3), .val (.ref a40), .val (.ref r50), .unset, .unset] [(.ref r50)])) rfl (by rw [hml]; rfl) (Steps.refl _) (argsL := []) (rest := []) (lenOf pd__28_29_5bB rfl) rfl (by show 2 * 0 + _ ≤ _; exact Nat.le_of_eq rfl) (hb hby at_106) (fun _ _ => ⟨rfl, e53, (by decide : 3 + 1 ≤ _), (by decide : 6 + 4 ≤ _)⟩)
    dsimp only [Pt.U, Pt.locs, Pt.cells, Pt.slots] at X55 ul55 uy55 uz55 st55 hQ55
    subst ul55 uy55 uz55
    obtain ⟨r55, rfl, Nq55, K55, ge55, Er55, Vr55⟩ := hQ55
    have lr55_a40 : a40 < r55 := Nat.lt_of_lt_of_le E51.lt ge55
    have lr55_r50 : r50 < r55 := Nat.lt_of_lt_of_le Er50.lt ge55
    have lr55_s50 : s50 < r55 := Nat.lt_of_lt_of_le Es50.lt ge55
    have E56 := E51.keep K55
    have V57 := V52.keep K55 nin0
    have E58 := Er50.keep K55
    have E59 := Es50.keep K55
    have F60 := Fr50.keep K55 nin0
    have V61 := Vs50.keep K55 nin0
    have Z55 : n0 ≤ T55.heap.size := Nat.le_trans Z50 K55.1
    have N55 := Fr.app N53 Nq55
    obtain ⟨cl62, Ar62, q62, S62, M62, H62, U62⟩ := id Vr55
    obtain ⟨_, _, ⟨T63, uL63, uk63, un63⟩, -, X63, ⟨Lc63, hQ63, ul63, uy63, uz63⟩, st63⟩ := Jvm.LawKit.callS X55 hx (y := (⟨"com/example/cicada/cicada/core/PayloadOfPinLaw", "same", "([BIBBBB)Z"⟩ : MethodName)) hown (mvT hZ (hw _ (List.mem_of_getElem? (i := 35) rfl))) (mvT hZ (hw _ (List.mem_of_getElem? (i := 36) rfl))) (mvT hZ (hw _ (List.mem_of_getElem? (i := 37) rfl))) (mvT hZ (hw _ (List.mem_of_getElem? (i := 38) rfl))) (by decide) (backOf (W := 0) (rm5 l Z a0 hw [] r55 cl62 (fun i => ([ev0] : List Int32).getD i 0) (1 : Int32) (1 : Int32) ev0 ev1 ev2 ev3 T55.heap n0 Z55 Ar62 S62 M62 (own_has (xs := ([ev0] : List Int32)) H62 S62)) hZ (hw _ (List.mem_of_getElem? (i := 38) rfl)) (hw _ (List.mem_of_getElem? (i := 37) rfl)) (by decide) (by decide)) (g := (mkF m 123 #[.val (.int p1), .val (.int p2), .val (.int p3), .val (.int p4), .val (.int p5), .val (.int (1 : Int32)), .val (.int ev0), .val (.int ev1), .val (.int ev2), .val (.int ev3), .val (.ref a40), .val (.ref r50), .val (.ref r55), .unset] [(.int ev3), (.int ev2), (.int ev1), (.int ev0), (.int (1 : Int32)), (.ref r55)])) rfl (by rw [hml]; rfl) (argsL := [(.ref r55), (.int (1 : Int32)), (.int ev0), (.int ev1), (.int ev2), (.int ev3)]) (rest := []) (lenOf pd__28_5bBIBBBB_29Z rfl) rfl (by show 2 * 0 + _ ≤ _; exact Nat.le_of_eq rfl) (hb hby at_123) (fun _ _ => ⟨rfl, rfl, (by decide : 4 + 0 ≤ _), (by decide : 10 + 0 ≤ _)⟩)
    dsimp only [Pt.U, Pt.locs, Pt.cells, Pt.slots] at X63 ul63 uy63 uz63 st63 hQ63
    subst ul63 uy63 uz63
    obtain ⟨rfl, Nq63, e63⟩ := hQ63
    have N63 := Fr.app N55 Nq63
    have hc126_64 : ¬ ((own_same_0 (fun i => ([ev0] : List Int32).getD i 0) (1 : Int32) (1 : Int32) ev0 ev1 ev2 ev3) = (0 : Int32)) := by simp [own_same_0, own_same_27, own_same_41, own_same_56]
    have hc133_65 : (0 : Int32) < (1 : Int32) := (by decide)
    obtain ⟨cl66, Ar66, q66, S66, M66, H66, U66⟩ := id V57
    obtain ⟨T67, h67, X67, e67, W67, st67⟩ := stB X63 hx hZ e63 Ar66 (j := (0 : Int32)) (by rw [S66]; decide) (g := (mkF m 144 #[.val (.int p1), .val (.int p2), .val (.int p3), .val (.int p4), .val (.int p5), .val (.int (1 : Int32)), .val (.int ev0), .val (.int ev1), .val (.int ev2), .val (.int ev3), .val (.ref a40), .val (.ref r50), .val (.ref r55), .unset] [(.int ((ev0 ^^^ (-1 : Int32)).toInt8.toInt32)), (.int (0 : Int32)), (.ref a40)])) rfl rfl (hb hby at_144)
    have N67 := Fr.snoc X67 N63 lo40
    have V68 : Arv Z h67 a40 k40 .byte (1 : Int32) [(.int (nar .byte ((ev0 ^^^ (-1 : Int32)).toInt8.toInt32)))] (.int (0 : Int32)) := Arv.set Ar66 q66 S66 M66 H66 U66 (fits_nar_byte _) W67 0 rfl (by show 0 < 1; decide)
    have E69 := E56.wr W67
    have E70 := E58.wr W67
    have E71 := E59.wr W67
    have F72 := F60.other W67 (Or.inl (Nat.ne_of_gt lr50_a40))
    have V73 := V61.other W67 (Nat.ne_of_gt ls50_a40)
    have E74 := Er55.wr W67
    have V75 := Vr55.other W67 (Nat.ne_of_gt lr55_a40)
    have Z67 : n0 ≤ h67.size := by rw [W67.size]; exact Z55
    have hc148_76 : ¬ ((1 : Int32) < (1 : Int32)) := (by decide)
    have hc163_77 : ¬ ((2 : Int32) < (1 : Int32)) := (by decide)
    have hc178_78 : ¬ ((3 : Int32) < (1 : Int32)) := (by decide)
    obtain ⟨cq79, kq79, qa79, qb79, qc79⟩ := isOf hZ e67 E70
    obtain ⟨_, _, ⟨T79, uL79, uk79, un79⟩, -, X79, ⟨Lc79, hQ79, ul79, uy79, uz79⟩, st79⟩ := X67.virtualBack hx (y := (⟨"com/example/cicada/cicada/core/Payload", "bytes", "()[B"⟩ : MethodName)) (z := (⟨"com/example/cicada/cicada/core/Payload", "bytes", "()[B"⟩ : MethodName)) hown (mvT hZ (hw _ (List.mem_of_getElem? (i := 30) rfl))) (mvT hZ (hw _ (List.mem_of_getElem? (i := 31) rfl))) (notFace_of_selects (args := #[]) (mvT hZ (hw _ (List.mem_of_getElem? (i := 33) rfl)))) (mvT hZ (hw _ (List.mem_of_getElem? (i := 33) rfl))) (mvT hZ (hw _ (List.mem_of_getElem? (i := 32) rfl))) (by decide) (backOf (W := 0) (rm4 l Z a0 hw [] r50 s50 k40 (1 : Int32) [(.int ev0)] h67 n0 Z67 F72 V73 E71 (by decide)) hZ (hw _ (List.mem_of_getElem? (i := 34) rfl)) (hw _ (List.mem_of_getElem? (i := 4) rfl)) (by decide) (by decide)) qa79 qc79 (g := (mkF m 192 #[.val (.int p1), .val (.int p2), .val (.int p3), .val (.int p4), .val (.int p5), .val (.int (1 : Int32)), .val (.int ev0), .val (.int ev1), .val (.int ev2), .val (.int ev3), .val (.ref a40), .val (.ref r50), .val (.ref r55), .unset] [(.ref r50)])) rfl (by rw [hml]; rfl) (Steps.refl _) (argsL := []) (rest := []) (lenOf pd__28_29_5bB rfl) rfl (by show 2 * 0 + _ ≤ _; exact Nat.le_of_eq rfl) (hb hby at_192) (fun _ _ => ⟨rfl, e67, (by decide : 4 + 1 ≤ _), (by decide : 10 + 4 ≤ _)⟩)
    dsimp only [Pt.U, Pt.locs, Pt.cells, Pt.slots] at X79 ul79 uy79 uz79 st79 hQ79
    subst ul79 uy79 uz79
    obtain ⟨r79, rfl, Nq79, K79, ge79, Er79, Vr79⟩ := hQ79
    have lr79_a40 : a40 < r79 := Nat.lt_of_lt_of_le E69.lt ge79
    have lr79_r50 : r50 < r79 := Nat.lt_of_lt_of_le E70.lt ge79
    have lr79_s50 : s50 < r79 := Nat.lt_of_lt_of_le E71.lt ge79
    have lr79_r55 : r55 < r79 := Nat.lt_of_lt_of_le E74.lt ge79
    have E80 := E69.keep K79
    have V81 := V68.keep K79 nin0
    have E82 := E70.keep K79
    have E83 := E71.keep K79
    have F84 := F72.keep K79 nin0
    have V85 := V73.keep K79 nin0
    have E86 := E74.keep K79
    have V87 := V75.keep K79 nin0
    have Z79 : n0 ≤ T79.heap.size := Nat.le_trans Z67 K79.1
    have N79 := Fr.app N67 Nq79
    obtain ⟨cl88, Ar88, q88, S88, M88, H88, U88⟩ := id Vr79
    obtain ⟨_, _, ⟨T89, uL89, uk89, un89⟩, -, X89, ⟨Lc89, hQ89, ul89, uy89, uz89⟩, st89⟩ := Jvm.LawKit.callS X79 hx (y := (⟨"com/example/cicada/cicada/core/PayloadOfPinLaw", "same", "([BIBBBB)Z"⟩ : MethodName)) hown (mvT hZ (hw _ (List.mem_of_getElem? (i := 35) rfl))) (mvT hZ (hw _ (List.mem_of_getElem? (i := 36) rfl))) (mvT hZ (hw _ (List.mem_of_getElem? (i := 37) rfl))) (mvT hZ (hw _ (List.mem_of_getElem? (i := 38) rfl))) (by decide) (backOf (W := 0) (rm5 l Z a0 hw [] r79 cl88 (fun i => ([ev0] : List Int32).getD i 0) (1 : Int32) (1 : Int32) ev0 ev1 ev2 ev3 T79.heap n0 Z79 Ar88 S88 M88 (own_has (xs := ([ev0] : List Int32)) H88 S88)) hZ (hw _ (List.mem_of_getElem? (i := 38) rfl)) (hw _ (List.mem_of_getElem? (i := 37) rfl)) (by decide) (by decide)) (g := (mkF m 209 #[.val (.int p1), .val (.int p2), .val (.int p3), .val (.int p4), .val (.int p5), .val (.int (1 : Int32)), .val (.int ev0), .val (.int ev1), .val (.int ev2), .val (.int ev3), .val (.ref a40), .val (.ref r50), .val (.ref r55), .val (.ref r79)] [(.int ev3), (.int ev2), (.int ev1), (.int ev0), (.int (1 : Int32)), (.ref r79)])) rfl (by rw [hml]; rfl) (argsL := [(.ref r79), (.int (1 : Int32)), (.int ev0), (.int ev1), (.int ev2), (.int ev3)]) (rest := []) (lenOf pd__28_5bBIBBBB_29Z rfl) rfl (by show 2 * 0 + _ ≤ _; exact Nat.le_of_eq rfl) (hb hby at_209) (fun _ _ => ⟨rfl, rfl, (by decide : 5 + 0 ≤ _), (by decide : 14 + 0 ≤ _)⟩)
    dsimp only [Pt.U, Pt.locs, Pt.cells, Pt.slots] at X89 ul89 uy89 uz89 st89 hQ89
    subst ul89 uy89 uz89
    obtain ⟨rfl, Nq89, e89⟩ := hQ89
    have N89 := Fr.app N79 Nq89
    have hc212_90 : ¬ ((own_same_0 (fun i => ([ev0] : List Int32).getD i 0) (1 : Int32) (1 : Int32) ev0 ev1 ev2 ev3) = (0 : Int32)) := by simp [own_same_0, own_same_27, own_same_41, own_same_56]
    obtain ⟨cq91, kq91, qa91, qb91, qc91⟩ := isOf hZ e89 E82
    obtain ⟨_, _, ⟨T91, uL91, uk91, un91⟩, -, X91, ⟨Lc91, hQ91, ul91, uy91, uz91⟩, st91⟩ := X89.virtualBack hx (y := (⟨"com/example/cicada/cicada/core/Payload", "size", "()I"⟩ : MethodName)) (z := (⟨"com/example/cicada/cicada/core/Payload", "size", "()I"⟩ : MethodName)) hown (mvT hZ (hw _ (List.mem_of_getElem? (i := 25) rfl))) (mvT hZ (hw _ (List.mem_of_getElem? (i := 26) rfl))) (notFace_of_selects (args := #[]) (mvT hZ (hw _ (List.mem_of_getElem? (i := 28) rfl)))) (mvT hZ (hw _ (List.mem_of_getElem? (i := 28) rfl))) (mvT hZ (hw _ (List.mem_of_getElem? (i := 27) rfl))) (by decide) (backOf (W := 0) (rm3 l Z a0 hw [] r50 s50 k40 (1 : Int32) [(.int ev0)] T79.heap n0 Z79 F84 V85) hZ (hw _ (List.mem_of_getElem? (i := 29) rfl)) (hw _ (List.mem_of_getElem? (i := 4) rfl)) (by decide) (by decide)) qa91 qc91 (g := (mkF m 219 #[.val (.int p1), .val (.int p2), .val (.int p3), .val (.int p4), .val (.int p5), .val (.int (1 : Int32)), .val (.int ev0), .val (.int ev1), .val (.int ev2), .val (.int ev3), .val (.ref a40), .val (.ref r50), .val (.ref r55), .val (.ref r79)] [(.ref r50)])) rfl (by rw [hml]; rfl) (Steps.refl _) (argsL := []) (rest := []) (lenOf pd__28_29I rfl) rfl (by show 2 * 0 + _ ≤ _; exact Nat.le_of_eq rfl) (hb hby at_219) (fun _ _ => ⟨rfl, e89, (by decide : 5 + 0 ≤ _), (by decide : 14 + 0 ≤ _)⟩)
    dsimp only [Pt.U, Pt.locs, Pt.cells, Pt.slots] at X91 ul91 uy91 uz91 st91 hQ91
    subst ul91 uy91 uz91
    obtain ⟨rfl, Nq91, e91⟩ := hQ91
    have N91 := Fr.app N89 Nq91
    have hc224_92 : (1 : Int32) = (1 : Int32) := (by decide)
    refine own_end X91 Bd.notSynchronized (v := some (.int (1 : Int32))) (fun h => by rw [Bd.returns] at h; cases h) (fun fs hr => ?_) e91 ?_ (by decide) (by decide)
    · show Steps p.tables e below (s₁.setTop (mkF m 25 #[.val (.int p1), .val (.int p2), .val (.int p3), .val (.int p4), .val (.int p5), .val (.int (1 : Int32)), .val (.int ev0), .val (.int ev1), .val (.int ev2), .val (.int ev3), .unset, .unset, .unset, .unset] [])) _
      refine XS.iload X0.here hx rfl (hb hby at_25) rfl ?_
      show Steps p.tables e below (s₁.setTop (mkF m 27 #[.val (.int p1), .val (.int p2), .val (.int p3), .val (.int p4), .val (.int p5), .val (.int (1 : Int32)), .val (.int ev0), .val (.int ev1), .val (.int ev2), .val (.int ev3), .unset, .unset, .unset, .unset] [(.int (1 : Int32))])) _
      refine st40 _ ?_
      show Steps p.tables e below (T40.setTop (mkF m 29 #[.val (.int p1), .val (.int p2), .val (.int p3), .val (.int p4), .val (.int p5), .val (.int (1 : Int32)), .val (.int ev0), .val (.int ev1), .val (.int ev2), .val (.int ev3), .unset, .unset, .unset, .unset] [(.ref a40)])) _
      refine XS.astore X40.here hx rfl (hb hby at_29) rfl rfl (l' := #[.val (.int p1), .val (.int p2), .val (.int p3), .val (.int p4), .val (.int p5), .val (.int (1 : Int32)), .val (.int ev0), .val (.int ev1), .val (.int ev2), .val (.int ev3), .val (.ref a40), .unset, .unset, .unset]) rfl ?_
      show Steps p.tables e below (T40.setTop (mkF m 31 #[.val (.int p1), .val (.int p2), .val (.int p3), .val (.int p4), .val (.int p5), .val (.int (1 : Int32)), .val (.int ev0), .val (.int ev1), .val (.int ev2), .val (.int ev3), .val (.ref a40), .unset, .unset, .unset] [])) _
      refine XS.iload X40.here hx rfl (hb hby at_31) rfl ?_
      show Steps p.tables e below (T40.setTop (mkF m 33 #[.val (.int p1), .val (.int p2), .val (.int p3), .val (.int p4), .val (.int p5), .val (.int (1 : Int32)), .val (.int ev0), .val (.int ev1), .val (.int ev2), .val (.int ev3), .val (.ref a40), .unset, .unset, .unset] [(.int (1 : Int32))])) _
      refine XS.ifNo X40.here hx rfl (hb hby at_33) rfl ((if0 _ _).trans (tlt hc33_42).2.2.2) ?_
      show Steps p.tables e below (T40.setTop (mkF m 36 #[.val (.int p1), .val (.int p2), .val (.int p3), .val (.int p4), .val (.int p5), .val (.int (1 : Int32)), .val (.int ev0), .val (.int ev1), .val (.int ev2), .val (.int ev3), .val (.ref a40), .unset, .unset, .unset] [])) _
      refine XS.aload X40.here hx rfl (hb hby at_36) rfl rfl ?_
      show Steps p.tables e below (T40.setTop (mkF m 38 #[.val (.int p1), .val (.int p2), .val (.int p3), .val (.int p4), .val (.int p5), .val (.int (1 : Int32)), .val (.int ev0), .val (.int ev1), .val (.int ev2), .val (.int ev3), .val (.ref a40), .unset, .unset, .unset] [(.ref a40)])) _
      refine XS.iconst X40.here hx rfl (hb hby at_38) ?_
      show Steps p.tables e below (T40.setTop (mkF m 39 #[.val (.int p1), .val (.int p2), .val (.int p3), .val (.int p4), .val (.int p5), .val (.int (1 : Int32)), .val (.int ev0), .val (.int ev1), .val (.int ev2), .val (.int ev3), .val (.ref a40), .unset, .unset, .unset] [(.int (0 : Int32)), (.ref a40)])) _
      refine XS.iload X40.here hx rfl (hb hby at_39) rfl ?_
      show Steps p.tables e below (T40.setTop (mkF m 41 #[.val (.int p1), .val (.int p2), .val (.int p3), .val (.int p4), .val (.int p5), .val (.int (1 : Int32)), .val (.int ev0), .val (.int ev1), .val (.int ev2), .val (.int ev3), .val (.ref a40), .unset, .unset, .unset] [(.int ev0), (.int (0 : Int32)), (.ref a40)])) _
      refine st44 _ ?_
      show Steps p.tables e below (T44.setTop (mkF m 42 #[.val (.int p1), .val (.int p2), .val (.int p3), .val (.int p4), .val (.int p5), .val (.int (1 : Int32)), .val (.int ev0), .val (.int ev1), .val (.int ev2), .val (.int ev3), .val (.ref a40), .unset, .unset, .unset] [])) _
      refine XS.iload X44.here hx rfl (hb hby at_42) rfl ?_
      show Steps p.tables e below (T44.setTop (mkF m 44 #[.val (.int p1), .val (.int p2), .val (.int p3), .val (.int p4), .val (.int p5), .val (.int (1 : Int32)), .val (.int ev0), .val (.int ev1), .val (.int ev2), .val (.int ev3), .val (.ref a40), .unset, .unset, .unset] [(.int (1 : Int32))])) _
      refine XS.iconst X44.here hx rfl (hb hby at_44) ?_
      show Steps p.tables e below (T44.setTop (mkF m 45 #[.val (.int p1), .val (.int p2), .val (.int p3), .val (.int p4), .val (.int p5), .val (.int (1 : Int32)), .val (.int ev0), .val (.int ev1), .val (.int ev2), .val (.int ev3), .val (.ref a40), .unset, .unset, .unset] [(.int (1 : Int32)), (.int (1 : Int32))])) _
      refine XS.icmpYes X44.here hx rfl (pc0 := 45) (pc' := 54) rfl (hb hby at_45) rfl (flt hc45_47).2.2.2 (by decide) (by decide) ?_
      show Steps p.tables e below (T44.setTop (mkF m 54 #[.val (.int p1), .val (.int p2), .val (.int p3), .val (.int p4), .val (.int p5), .val (.int (1 : Int32)), .val (.int ev0), .val (.int ev1), .val (.int ev2), .val (.int ev3), .val (.ref a40), .unset, .unset, .unset] [])) _
      refine XS.iload X44.here hx rfl (hb hby at_54) rfl ?_
      show Steps p.tables e below (T44.setTop (mkF m 56 #[.val (.int p1), .val (.int p2), .val (.int p3), .val (.int p4), .val (.int p5), .val (.int (1 : Int32)), .val (.int ev0), .val (.int ev1), .val (.int ev2), .val (.int ev3), .val (.ref a40), .unset, .unset, .unset] [(.int (1 : Int32))])) _
      refine XS.iconst X44.here hx rfl (hb hby at_56) ?_
      show Steps p.tables e below (T44.setTop (mkF m 57 #[.val (.int p1), .val (.int p2), .val (.int p3), .val (.int p4), .val (.int p5), .val (.int (1 : Int32)), .val (.int ev0), .val (.int ev1), .val (.int ev2), .val (.int ev3), .val (.ref a40), .unset, .unset, .unset] [(.int (2 : Int32)), (.int (1 : Int32))])) _
      refine XS.icmpYes X44.here hx rfl (pc0 := 57) (pc' := 66) rfl (hb hby at_57) rfl (flt hc57_48).2.2.2 (by decide) (by decide) ?_
      show Steps p.tables e below (T44.setTop (mkF m 66 #[.val (.int p1), .val (.int p2), .val (.int p3), .val (.int p4), .val (.int p5), .val (.int (1 : Int32)), .val (.int ev0), .val (.int ev1), .val (.int ev2), .val (.int ev3), .val (.ref a40), .unset, .unset, .unset] [])) _
      refine XS.iload X44.here hx rfl (hb hby at_66) rfl ?_
      show Steps p.tables e below (T44.setTop (mkF m 68 #[.val (.int p1), .val (.int p2), .val (.int p3), .val (.int p4), .val (.int p5), .val (.int (1 : Int32)), .val (.int ev0), .val (.int ev1), .val (.int ev2), .val (.int ev3), .val (.ref a40), .unset, .unset, .unset] [(.int (1 : Int32))])) _
      refine XS.iconst X44.here hx rfl (hb hby at_68) ?_
      show Steps p.tables e below (T44.setTop (mkF m 69 #[.val (.int p1), .val (.int p2), .val (.int p3), .val (.int p4), .val (.int p5), .val (.int (1 : Int32)), .val (.int ev0), .val (.int ev1), .val (.int ev2), .val (.int ev3), .val (.ref a40), .unset, .unset, .unset] [(.int (3 : Int32)), (.int (1 : Int32))])) _
      refine XS.icmpYes X44.here hx rfl (pc0 := 69) (pc' := 78) rfl (hb hby at_69) rfl (flt hc69_49).2.2.2 (by decide) (by decide) ?_
      show Steps p.tables e below (T44.setTop (mkF m 78 #[.val (.int p1), .val (.int p2), .val (.int p3), .val (.int p4), .val (.int p5), .val (.int (1 : Int32)), .val (.int ev0), .val (.int ev1), .val (.int ev2), .val (.int ev3), .val (.ref a40), .unset, .unset, .unset] [])) _
      refine XS.aload X44.here hx rfl (hb hby at_78) rfl rfl ?_
      show Steps p.tables e below (T44.setTop (mkF m 80 #[.val (.int p1), .val (.int p2), .val (.int p3), .val (.int p4), .val (.int p5), .val (.int (1 : Int32)), .val (.int ev0), .val (.int ev1), .val (.int ev2), .val (.int ev3), .val (.ref a40), .unset, .unset, .unset] [(.ref a40)])) _
      refine st50 _ ?_
      show Steps p.tables e below (T50.setTop (mkF m 83 #[.val (.int p1), .val (.int p2), .val (.int p3), .val (.int p4), .val (.int p5), .val (.int (1 : Int32)), .val (.int ev0), .val (.int ev1), .val (.int ev2), .val (.int ev3), .val (.ref a40), .unset, .unset, .unset] [(.ref r50)])) _
      refine XS.astore X50.here hx rfl (hb hby at_83) rfl rfl (l' := #[.val (.int p1), .val (.int p2), .val (.int p3), .val (.int p4), .val (.int p5), .val (.int (1 : Int32)), .val (.int ev0), .val (.int ev1), .val (.int ev2), .val (.int ev3), .val (.ref a40), .val (.ref r50), .unset, .unset]) rfl ?_
      show Steps p.tables e below (T50.setTop (mkF m 85 #[.val (.int p1), .val (.int p2), .val (.int p3), .val (.int p4), .val (.int p5), .val (.int (1 : Int32)), .val (.int ev0), .val (.int ev1), .val (.int ev2), .val (.int ev3), .val (.ref a40), .val (.ref r50), .unset, .unset] [])) _
      refine XS.aload X50.here hx rfl (hb hby at_85) rfl rfl ?_
      show Steps p.tables e below (T50.setTop (mkF m 87 #[.val (.int p1), .val (.int p2), .val (.int p3), .val (.int p4), .val (.int p5), .val (.int (1 : Int32)), .val (.int ev0), .val (.int ev1), .val (.int ev2), .val (.int ev3), .val (.ref a40), .val (.ref r50), .unset, .unset] [(.ref r50)])) _
      refine XS.ifnonnullYes X50.here hx rfl (pc0 := 87) (pc' := 92) rfl (hb hby at_87) rfl (by decide) (by decide) ?_
      show Steps p.tables e below (T50.setTop (mkF m 92 #[.val (.int p1), .val (.int p2), .val (.int p3), .val (.int p4), .val (.int p5), .val (.int (1 : Int32)), .val (.int ev0), .val (.int ev1), .val (.int ev2), .val (.int ev3), .val (.ref a40), .val (.ref r50), .unset, .unset] [])) _
      refine XS.aload X50.here hx rfl (hb hby at_92) rfl rfl ?_
      show Steps p.tables e below (T50.setTop (mkF m 94 #[.val (.int p1), .val (.int p2), .val (.int p3), .val (.int p4), .val (.int p5), .val (.int (1 : Int32)), .val (.int ev0), .val (.int ev1), .val (.int ev2), .val (.int ev3), .val (.ref a40), .val (.ref r50), .unset, .unset] [(.ref r50)])) _
      refine st53.trans ?_
      show Steps p.tables e below (T53.setTop (mkF m 97 #[.val (.int p1), .val (.int p2), .val (.int p3), .val (.int p4), .val (.int p5), .val (.int (1 : Int32)), .val (.int ev0), .val (.int ev1), .val (.int ev2), .val (.int ev3), .val (.ref a40), .val (.ref r50), .unset, .unset] [(.int (1 : Int32))])) _
      refine XS.iload X53.here hx rfl (hb hby at_97) rfl ?_
      show Steps p.tables e below (T53.setTop (mkF m 99 #[.val (.int p1), .val (.int p2), .val (.int p3), .val (.int p4), .val (.int p5), .val (.int (1 : Int32)), .val (.int ev0), .val (.int ev1), .val (.int ev2), .val (.int ev3), .val (.ref a40), .val (.ref r50), .unset, .unset] [(.int (1 : Int32)), (.int (1 : Int32))])) _
      refine XS.icmpYes X53.here hx rfl (pc0 := 99) (pc' := 104) rfl (hb hby at_99) rfl (teq hc99_54).1 (by decide) (by decide) ?_
      show Steps p.tables e below (T53.setTop (mkF m 104 #[.val (.int p1), .val (.int p2), .val (.int p3), .val (.int p4), .val (.int p5), .val (.int (1 : Int32)), .val (.int ev0), .val (.int ev1), .val (.int ev2), .val (.int ev3), .val (.ref a40), .val (.ref r50), .unset, .unset] [])) _
      refine XS.aload X53.here hx rfl (hb hby at_104) rfl rfl ?_
      show Steps p.tables e below (T53.setTop (mkF m 106 #[.val (.int p1), .val (.int p2), .val (.int p3), .val (.int p4), .val (.int p5), .val (.int (1 : Int32)), .val (.int ev0), .val (.int ev1), .val (.int ev2), .val (.int ev3), .val (.ref a40), .val (.ref r50), .unset, .unset] [(.ref r50)])) _
      refine st55.trans ?_
      show Steps p.tables e below (T55.setTop (mkF m 109 #[.val (.int p1), .val (.int p2), .val (.int p3), .val (.int p4), .val (.int p5), .val (.int (1 : Int32)), .val (.int ev0), .val (.int ev1), .val (.int ev2), .val (.int ev3), .val (.ref a40), .val (.ref r50), .unset, .unset] [(.ref r55)])) _
      refine XS.astore X55.here hx rfl (hb hby at_109) rfl rfl (l' := #[.val (.int p1), .val (.int p2), .val (.int p3), .val (.int p4), .val (.int p5), .val (.int (1 : Int32)), .val (.int ev0), .val (.int ev1), .val (.int ev2), .val (.int ev3), .val (.ref a40), .val (.ref r50), .val (.ref r55), .unset]) rfl ?_
      show Steps p.tables e below (T55.setTop (mkF m 111 #[.val (.int p1), .val (.int p2), .val (.int p3), .val (.int p4), .val (.int p5), .val (.int (1 : Int32)), .val (.int ev0), .val (.int ev1), .val (.int ev2), .val (.int ev3), .val (.ref a40), .val (.ref r50), .val (.ref r55), .unset] [])) _
      refine XS.aload X55.here hx rfl (hb hby at_111) rfl rfl ?_
      show Steps p.tables e below (T55.setTop (mkF m 113 #[.val (.int p1), .val (.int p2), .val (.int p3), .val (.int p4), .val (.int p5), .val (.int (1 : Int32)), .val (.int ev0), .val (.int ev1), .val (.int ev2), .val (.int ev3), .val (.ref a40), .val (.ref r50), .val (.ref r55), .unset] [(.ref r55)])) _
      refine XS.iload X55.here hx rfl (hb hby at_113) rfl ?_
      show Steps p.tables e below (T55.setTop (mkF m 115 #[.val (.int p1), .val (.int p2), .val (.int p3), .val (.int p4), .val (.int p5), .val (.int (1 : Int32)), .val (.int ev0), .val (.int ev1), .val (.int ev2), .val (.int ev3), .val (.ref a40), .val (.ref r50), .val (.ref r55), .unset] [(.int (1 : Int32)), (.ref r55)])) _
      refine XS.iload X55.here hx rfl (hb hby at_115) rfl ?_
      show Steps p.tables e below (T55.setTop (mkF m 117 #[.val (.int p1), .val (.int p2), .val (.int p3), .val (.int p4), .val (.int p5), .val (.int (1 : Int32)), .val (.int ev0), .val (.int ev1), .val (.int ev2), .val (.int ev3), .val (.ref a40), .val (.ref r50), .val (.ref r55), .unset] [(.int ev0), (.int (1 : Int32)), (.ref r55)])) _
      refine XS.iload X55.here hx rfl (hb hby at_117) rfl ?_
      show Steps p.tables e below (T55.setTop (mkF m 119 #[.val (.int p1), .val (.int p2), .val (.int p3), .val (.int p4), .val (.int p5), .val (.int (1 : Int32)), .val (.int ev0), .val (.int ev1), .val (.int ev2), .val (.int ev3), .val (.ref a40), .val (.ref r50), .val (.ref r55), .unset] [(.int ev1), (.int ev0), (.int (1 : Int32)), (.ref r55)])) _
      refine XS.iload X55.here hx rfl (hb hby at_119) rfl ?_
      show Steps p.tables e below (T55.setTop (mkF m 121 #[.val (.int p1), .val (.int p2), .val (.int p3), .val (.int p4), .val (.int p5), .val (.int (1 : Int32)), .val (.int ev0), .val (.int ev1), .val (.int ev2), .val (.int ev3), .val (.ref a40), .val (.ref r50), .val (.ref r55), .unset] [(.int ev2), (.int ev1), (.int ev0), (.int (1 : Int32)), (.ref r55)])) _
      refine XS.iload X55.here hx rfl (hb hby at_121) rfl ?_
      show Steps p.tables e below (T55.setTop (mkF m 123 #[.val (.int p1), .val (.int p2), .val (.int p3), .val (.int p4), .val (.int p5), .val (.int (1 : Int32)), .val (.int ev0), .val (.int ev1), .val (.int ev2), .val (.int ev3), .val (.ref a40), .val (.ref r50), .val (.ref r55), .unset] [(.int ev3), (.int ev2), (.int ev1), (.int ev0), (.int (1 : Int32)), (.ref r55)])) _
      refine st63 _ ?_
      show Steps p.tables e below (T63.setTop (mkF m 126 #[.val (.int p1), .val (.int p2), .val (.int p3), .val (.int p4), .val (.int p5), .val (.int (1 : Int32)), .val (.int ev0), .val (.int ev1), .val (.int ev2), .val (.int ev3), .val (.ref a40), .val (.ref r50), .val (.ref r55), .unset] [(.int (own_same_0 (fun i => ([ev0] : List Int32).getD i 0) (1 : Int32) (1 : Int32) ev0 ev1 ev2 ev3))])) _
      refine XS.ifYes X63.here hx rfl (pc0 := 126) (pc' := 131) rfl (hb hby at_126) rfl ((if0 _ _).trans (feq hc126_64).2) (by decide) (by decide) ?_
      show Steps p.tables e below (T63.setTop (mkF m 131 #[.val (.int p1), .val (.int p2), .val (.int p3), .val (.int p4), .val (.int p5), .val (.int (1 : Int32)), .val (.int ev0), .val (.int ev1), .val (.int ev2), .val (.int ev3), .val (.ref a40), .val (.ref r50), .val (.ref r55), .unset] [])) _
      refine XS.iload X63.here hx rfl (hb hby at_131) rfl ?_
      show Steps p.tables e below (T63.setTop (mkF m 133 #[.val (.int p1), .val (.int p2), .val (.int p3), .val (.int p4), .val (.int p5), .val (.int (1 : Int32)), .val (.int ev0), .val (.int ev1), .val (.int ev2), .val (.int ev3), .val (.ref a40), .val (.ref r50), .val (.ref r55), .unset] [(.int (1 : Int32))])) _
      refine XS.ifNo X63.here hx rfl (hb hby at_133) rfl ((if0 _ _).trans (tlt hc133_65).2.2.2) ?_
      show Steps p.tables e below (T63.setTop (mkF m 136 #[.val (.int p1), .val (.int p2), .val (.int p3), .val (.int p4), .val (.int p5), .val (.int (1 : Int32)), .val (.int ev0), .val (.int ev1), .val (.int ev2), .val (.int ev3), .val (.ref a40), .val (.ref r50), .val (.ref r55), .unset] [])) _
      refine XS.aload X63.here hx rfl (hb hby at_136) rfl rfl ?_
      show Steps p.tables e below (T63.setTop (mkF m 138 #[.val (.int p1), .val (.int p2), .val (.int p3), .val (.int p4), .val (.int p5), .val (.int (1 : Int32)), .val (.int ev0), .val (.int ev1), .val (.int ev2), .val (.int ev3), .val (.ref a40), .val (.ref r50), .val (.ref r55), .unset] [(.ref a40)])) _
      refine XS.iconst X63.here hx rfl (hb hby at_138) ?_
      show Steps p.tables e below (T63.setTop (mkF m 139 #[.val (.int p1), .val (.int p2), .val (.int p3), .val (.int p4), .val (.int p5), .val (.int (1 : Int32)), .val (.int ev0), .val (.int ev1), .val (.int ev2), .val (.int ev3), .val (.ref a40), .val (.ref r50), .val (.ref r55), .unset] [(.int (0 : Int32)), (.ref a40)])) _
      refine XS.iload X63.here hx rfl (hb hby at_139) rfl ?_
      show Steps p.tables e below (T63.setTop (mkF m 141 #[.val (.int p1), .val (.int p2), .val (.int p3), .val (.int p4), .val (.int p5), .val (.int (1 : Int32)), .val (.int ev0), .val (.int ev1), .val (.int ev2), .val (.int ev3), .val (.ref a40), .val (.ref r50), .val (.ref r55), .unset] [(.int ev0), (.int (0 : Int32)), (.ref a40)])) _
      refine XS.iconst X63.here hx rfl (hb hby at_141) ?_
      show Steps p.tables e below (T63.setTop (mkF m 142 #[.val (.int p1), .val (.int p2), .val (.int p3), .val (.int p4), .val (.int p5), .val (.int (1 : Int32)), .val (.int ev0), .val (.int ev1), .val (.int ev2), .val (.int ev3), .val (.ref a40), .val (.ref r50), .val (.ref r55), .unset] [(.int (-1 : Int32)), (.int ev0), (.int (0 : Int32)), (.ref a40)])) _
      refine XS.ixor X63.here hx rfl (hb hby at_142) rfl ?_
      show Steps p.tables e below (T63.setTop (mkF m 143 #[.val (.int p1), .val (.int p2), .val (.int p3), .val (.int p4), .val (.int p5), .val (.int (1 : Int32)), .val (.int ev0), .val (.int ev1), .val (.int ev2), .val (.int ev3), .val (.ref a40), .val (.ref r50), .val (.ref r55), .unset] [(.int (ev0 ^^^ (-1 : Int32))), (.int (0 : Int32)), (.ref a40)])) _
      refine XS.i2b X63.here hx rfl (hb hby at_143) rfl ?_
      show Steps p.tables e below (T63.setTop (mkF m 144 #[.val (.int p1), .val (.int p2), .val (.int p3), .val (.int p4), .val (.int p5), .val (.int (1 : Int32)), .val (.int ev0), .val (.int ev1), .val (.int ev2), .val (.int ev3), .val (.ref a40), .val (.ref r50), .val (.ref r55), .unset] [(.int ((ev0 ^^^ (-1 : Int32)).toInt8.toInt32)), (.int (0 : Int32)), (.ref a40)])) _
      refine st67 _ ?_
      show Steps p.tables e below (T67.setTop (mkF m 145 #[.val (.int p1), .val (.int p2), .val (.int p3), .val (.int p4), .val (.int p5), .val (.int (1 : Int32)), .val (.int ev0), .val (.int ev1), .val (.int ev2), .val (.int ev3), .val (.ref a40), .val (.ref r50), .val (.ref r55), .unset] [])) _
      refine XS.iload X67.here hx rfl (hb hby at_145) rfl ?_
      show Steps p.tables e below (T67.setTop (mkF m 147 #[.val (.int p1), .val (.int p2), .val (.int p3), .val (.int p4), .val (.int p5), .val (.int (1 : Int32)), .val (.int ev0), .val (.int ev1), .val (.int ev2), .val (.int ev3), .val (.ref a40), .val (.ref r50), .val (.ref r55), .unset] [(.int (1 : Int32))])) _
      refine XS.iconst X67.here hx rfl (hb hby at_147) ?_
      show Steps p.tables e below (T67.setTop (mkF m 148 #[.val (.int p1), .val (.int p2), .val (.int p3), .val (.int p4), .val (.int p5), .val (.int (1 : Int32)), .val (.int ev0), .val (.int ev1), .val (.int ev2), .val (.int ev3), .val (.ref a40), .val (.ref r50), .val (.ref r55), .unset] [(.int (1 : Int32)), (.int (1 : Int32))])) _
      refine XS.icmpYes X67.here hx rfl (pc0 := 148) (pc' := 160) rfl (hb hby at_148) rfl (flt hc148_76).2.2.2 (by decide) (by decide) ?_
      show Steps p.tables e below (T67.setTop (mkF m 160 #[.val (.int p1), .val (.int p2), .val (.int p3), .val (.int p4), .val (.int p5), .val (.int (1 : Int32)), .val (.int ev0), .val (.int ev1), .val (.int ev2), .val (.int ev3), .val (.ref a40), .val (.ref r50), .val (.ref r55), .unset] [])) _
      refine XS.iload X67.here hx rfl (hb hby at_160) rfl ?_
      show Steps p.tables e below (T67.setTop (mkF m 162 #[.val (.int p1), .val (.int p2), .val (.int p3), .val (.int p4), .val (.int p5), .val (.int (1 : Int32)), .val (.int ev0), .val (.int ev1), .val (.int ev2), .val (.int ev3), .val (.ref a40), .val (.ref r50), .val (.ref r55), .unset] [(.int (1 : Int32))])) _
      refine XS.iconst X67.here hx rfl (hb hby at_162) ?_
      show Steps p.tables e below (T67.setTop (mkF m 163 #[.val (.int p1), .val (.int p2), .val (.int p3), .val (.int p4), .val (.int p5), .val (.int (1 : Int32)), .val (.int ev0), .val (.int ev1), .val (.int ev2), .val (.int ev3), .val (.ref a40), .val (.ref r50), .val (.ref r55), .unset] [(.int (2 : Int32)), (.int (1 : Int32))])) _
      refine XS.icmpYes X67.here hx rfl (pc0 := 163) (pc' := 175) rfl (hb hby at_163) rfl (flt hc163_77).2.2.2 (by decide) (by decide) ?_
      show Steps p.tables e below (T67.setTop (mkF m 175 #[.val (.int p1), .val (.int p2), .val (.int p3), .val (.int p4), .val (.int p5), .val (.int (1 : Int32)), .val (.int ev0), .val (.int ev1), .val (.int ev2), .val (.int ev3), .val (.ref a40), .val (.ref r50), .val (.ref r55), .unset] [])) _
      refine XS.iload X67.here hx rfl (hb hby at_175) rfl ?_
      show Steps p.tables e below (T67.setTop (mkF m 177 #[.val (.int p1), .val (.int p2), .val (.int p3), .val (.int p4), .val (.int p5), .val (.int (1 : Int32)), .val (.int ev0), .val (.int ev1), .val (.int ev2), .val (.int ev3), .val (.ref a40), .val (.ref r50), .val (.ref r55), .unset] [(.int (1 : Int32))])) _
      refine XS.iconst X67.here hx rfl (hb hby at_177) ?_
      show Steps p.tables e below (T67.setTop (mkF m 178 #[.val (.int p1), .val (.int p2), .val (.int p3), .val (.int p4), .val (.int p5), .val (.int (1 : Int32)), .val (.int ev0), .val (.int ev1), .val (.int ev2), .val (.int ev3), .val (.ref a40), .val (.ref r50), .val (.ref r55), .unset] [(.int (3 : Int32)), (.int (1 : Int32))])) _
      refine XS.icmpYes X67.here hx rfl (pc0 := 178) (pc' := 190) rfl (hb hby at_178) rfl (flt hc178_78).2.2.2 (by decide) (by decide) ?_
      show Steps p.tables e below (T67.setTop (mkF m 190 #[.val (.int p1), .val (.int p2), .val (.int p3), .val (.int p4), .val (.int p5), .val (.int (1 : Int32)), .val (.int ev0), .val (.int ev1), .val (.int ev2), .val (.int ev3), .val (.ref a40), .val (.ref r50), .val (.ref r55), .unset] [])) _
      refine XS.aload X67.here hx rfl (hb hby at_190) rfl rfl ?_
      show Steps p.tables e below (T67.setTop (mkF m 192 #[.val (.int p1), .val (.int p2), .val (.int p3), .val (.int p4), .val (.int p5), .val (.int (1 : Int32)), .val (.int ev0), .val (.int ev1), .val (.int ev2), .val (.int ev3), .val (.ref a40), .val (.ref r50), .val (.ref r55), .unset] [(.ref r50)])) _
      refine st79.trans ?_
      show Steps p.tables e below (T79.setTop (mkF m 195 #[.val (.int p1), .val (.int p2), .val (.int p3), .val (.int p4), .val (.int p5), .val (.int (1 : Int32)), .val (.int ev0), .val (.int ev1), .val (.int ev2), .val (.int ev3), .val (.ref a40), .val (.ref r50), .val (.ref r55), .unset] [(.ref r79)])) _
      refine XS.astore X79.here hx rfl (hb hby at_195) rfl rfl (l' := #[.val (.int p1), .val (.int p2), .val (.int p3), .val (.int p4), .val (.int p5), .val (.int (1 : Int32)), .val (.int ev0), .val (.int ev1), .val (.int ev2), .val (.int ev3), .val (.ref a40), .val (.ref r50), .val (.ref r55), .val (.ref r79)]) rfl ?_
      show Steps p.tables e below (T79.setTop (mkF m 197 #[.val (.int p1), .val (.int p2), .val (.int p3), .val (.int p4), .val (.int p5), .val (.int (1 : Int32)), .val (.int ev0), .val (.int ev1), .val (.int ev2), .val (.int ev3), .val (.ref a40), .val (.ref r50), .val (.ref r55), .val (.ref r79)] [])) _
      refine XS.aload X79.here hx rfl (hb hby at_197) rfl rfl ?_
      show Steps p.tables e below (T79.setTop (mkF m 199 #[.val (.int p1), .val (.int p2), .val (.int p3), .val (.int p4), .val (.int p5), .val (.int (1 : Int32)), .val (.int ev0), .val (.int ev1), .val (.int ev2), .val (.int ev3), .val (.ref a40), .val (.ref r50), .val (.ref r55), .val (.ref r79)] [(.ref r79)])) _
      refine XS.iload X79.here hx rfl (hb hby at_199) rfl ?_
      show Steps p.tables e below (T79.setTop (mkF m 201 #[.val (.int p1), .val (.int p2), .val (.int p3), .val (.int p4), .val (.int p5), .val (.int (1 : Int32)), .val (.int ev0), .val (.int ev1), .val (.int ev2), .val (.int ev3), .val (.ref a40), .val (.ref r50), .val (.ref r55), .val (.ref r79)] [(.int (1 : Int32)), (.ref r79)])) _
      refine XS.iload X79.here hx rfl (hb hby at_201) rfl ?_
      show Steps p.tables e below (T79.setTop (mkF m 203 #[.val (.int p1), .val (.int p2), .val (.int p3), .val (.int p4), .val (.int p5), .val (.int (1 : Int32)), .val (.int ev0), .val (.int ev1), .val (.int ev2), .val (.int ev3), .val (.ref a40), .val (.ref r50), .val (.ref r55), .val (.ref r79)] [(.int ev0), (.int (1 : Int32)), (.ref r79)])) _
      refine XS.iload X79.here hx rfl (hb hby at_203) rfl ?_
      show Steps p.tables e below (T79.setTop (mkF m 205 #[.val (.int p1), .val (.int p2), .val (.int p3), .val (.int p4), .val (.int p5), .val (.int (1 : Int32)), .val (.int ev0), .val (.int ev1), .val (.int ev2), .val (.int ev3), .val (.ref a40), .val (.ref r50), .val (.ref r55), .val (.ref r79)] [(.int ev1), (.int ev0), (.int (1 : Int32)), (.ref r79)])) _
      refine XS.iload X79.here hx rfl (hb hby at_205) rfl ?_
      show Steps p.tables e below (T79.setTop (mkF m 207 #[.val (.int p1), .val (.int p2), .val (.int p3), .val (.int p4), .val (.int p5), .val (.int (1 : Int32)), .val (.int ev0), .val (.int ev1), .val (.int ev2), .val (.int ev3), .val (.ref a40), .val (.ref r50), .val (.ref r55), .val (.ref r79)] [(.int ev2), (.int ev1), (.int ev0), (.int (1 : Int32)), (.ref r79)])) _
      refine XS.iload X79.here hx rfl (hb hby at_207) rfl ?_
      show Steps p.tables e below (T79.setTop (mkF m 209 #[.val (.int p1), .val (.int p2), .val (.int p3), .val (.int p4), .val (.int p5), .val (.int (1 : Int32)), .val (.int ev0), .val (.int ev1), .val (.int ev2), .val (.int ev3), .val (.ref a40), .val (.ref r50), .val (.ref r55), .val (.ref r79)] [(.int ev3), (.int ev2), (.int ev1), (.int ev0), (.int (1 : Int32)), (.ref r79)])) _
      refine st89 _ ?_
      show Steps p.tables e below (T89.setTop (mkF m 212 #[.val (.int p1), .val (.int p2), .val (.int p3), .val (.int p4), .val (.int p5), .val (.int (1 : Int32)), .val (.int ev0), .val (.int ev1), .val (.int ev2), .val (.int ev3), .val (.ref a40), .val (.ref r50), .val (.ref r55), .val (.ref r79)] [(.int (own_same_0 (fun i => ([ev0] : List Int32).getD i 0) (1 : Int32) (1 : Int32) ev0 ev1 ev2 ev3))])) _
      refine XS.ifYes X89.here hx rfl (pc0 := 212) (pc' := 217) rfl (hb hby at_212) rfl ((if0 _ _).trans (feq hc212_90).2) (by decide) (by decide) ?_
      show Steps p.tables e below (T89.setTop (mkF m 217 #[.val (.int p1), .val (.int p2), .val (.int p3), .val (.int p4), .val (.int p5), .val (.int (1 : Int32)), .val (.int ev0), .val (.int ev1), .val (.int ev2), .val (.int ev3), .val (.ref a40), .val (.ref r50), .val (.ref r55), .val (.ref r79)] [])) _
      refine XS.aload X89.here hx rfl (hb hby at_217) rfl rfl ?_
      show Steps p.tables e below (T89.setTop (mkF m 219 #[.val (.int p1), .val (.int p2), .val (.int p3), .val (.int p4), .val (.int p5), .val (.int (1 : Int32)), .val (.int ev0), .val (.int ev1), .val (.int ev2), .val (.int ev3), .val (.ref a40), .val (.ref r50), .val (.ref r55), .val (.ref r79)] [(.ref r50)])) _
      refine st91.trans ?_
      show Steps p.tables e below (T91.setTop (mkF m 222 #[.val (.int p1), .val (.int p2), .val (.int p3), .val (.int p4), .val (.int p5), .val (.int (1 : Int32)), .val (.int ev0), .val (.int ev1), .val (.int ev2), .val (.int ev3), .val (.ref a40), .val (.ref r50), .val (.ref r55), .val (.ref r79)] [(.int (1 : Int32))])) _
      refine XS.iload X91.here hx rfl (hb hby at_222) rfl ?_
      show Steps p.tables e below (T91.setTop (mkF m 224 #[.val (.int p1), .val (.int p2), .val (.int p3), .val (.int p4), .val (.int p5), .val (.int (1 : Int32)), .val (.int ev0), .val (.int ev1), .val (.int ev2), .val (.int ev3), .val (.ref a40), .val (.ref r50), .val (.ref r55), .val (.ref r79)] [(.int (1 : Int32)), (.int (1 : Int32))])) _
      refine XS.icmpNo X91.here hx rfl (hb hby at_224) rfl (teq hc224_92).2 ?_
      show Steps p.tables e below (T91.setTop (mkF m 227 #[.val (.int p1), .val (.int p2), .val (.int p3), .val (.int p4), .val (.int p5), .val (.int (1 : Int32)), .val (.int ev0), .val (.int ev1), .val (.int ev2), .val (.int ev3), .val (.ref a40), .val (.ref r50), .val (.ref r55), .val (.ref r79)] [])) _
      refine XS.iconst X91.here hx rfl (hb hby at_227) ?_
      show Steps p.tables e below (T91.setTop (mkF m 228 #[.val (.int p1), .val (.int p2), .val (.int p3), .val (.int p4), .val (.int p5), .val (.int (1 : Int32)), .val (.int ev0), .val (.int ev1), .val (.int ev2), .val (.int ev3), .val (.ref a40), .val (.ref r50), .val (.ref r55), .val (.ref r79)] [(.int (1 : Int32))])) _
      refine XS.goto X91.here hx rfl (pc0 := 228) (pc' := 232) rfl (hb hby at_228) (by decide) (by decide) ?_
      show Steps p.tables e below (T91.setTop (mkF m 232 #[.val (.int p1), .val (.int p2), .val (.int p3), .val (.int p4), .val (.int p5), .val (.int (1 : Int32)), .val (.int ev0), .val (.int ev1), .val (.int ev2), .val (.int ev3), .val (.ref a40), .val (.ref r50), .val (.ref r55), .val (.ref r79)] [(.int (1 : Int32))])) _
      exact retN X91 hx (t := .boolean) Bd.returns (by simp) (hb hby at_232) hr
    · exact ⟨rfl, N91⟩
  · obtain ⟨T93, h93, k93, X93, e93, E93, A93, B93, st93⟩ := newPE X0 hx hZ (hw _ (List.mem_of_getElem? (i := 1) rfl)) e0 (g := (mkF m 27 #[.val (.int p1), .val (.int p2), .val (.int p3), .val (.int p4), .val (.int p5), .val (.int (2 : Int32)), .val (.int ev0), .val (.int ev1), .val (.int ev2), .val (.int ev3), .unset, .unset, .unset, .unset] [(.int (2 : Int32))])) rfl (hb hby at_27) rfl (by decide) (cap := 2) (by decide) (by decide) (by decide) (by decide) (ad := "[B") (by first | rfl | decide +kernel)
    obtain ⟨a93, ga93⟩ : ∃ z, z = h0.size := ⟨_, rfl⟩
    rw [← ga93] at A93 B93 st93
    have lo93 : n0 ≤ a93 := Nat.le_trans Z0 (Nat.le_of_eq ga93.symm)
    have Z93 : n0 ≤ h93.size := Nat.le_trans Z0 E93.1
    have V94 : Arv Z h93 a93 k93 .byte (2 : Int32) [(.int (0 : Int32)), (.int (0 : Int32))] (.int (0 : Int32)) := (Arv.new A93 (by decide)).pad (pad_rep [] (.int (0 : Int32)) 2)
    have hc33_95 : (0 : Int32) < (2 : Int32) := (by decide)
    obtain ⟨cl96, Ar96, q96, S96, M96, H96, U96⟩ := id V94
    obtain ⟨T97, h97, X97, e97, W97, st97⟩ := stB X93 hx hZ e93 Ar96 (j := (0 : Int32)) (by rw [S96]; decide) (g := (mkF m 41 #[.val (.int p1), .val (.int p2), .val (.int p3), .val (.int p4), .val (.int p5), .val (.int (2 : Int32)), .val (.int ev0), .val (.int ev1), .val (.int ev2), .val (.int ev3), .val (.ref a93), .unset, .unset, .unset] [(.int ev0), (.int (0 : Int32)), (.ref a93)])) rfl rfl (hb hby at_41)
    have N97 := Fr.snoc X97 N0 lo93
    have V98 : Arv Z h97 a93 k93 .byte (2 : Int32) [(.int (nar .byte ev0)), (.int (0 : Int32))] (.int (0 : Int32)) := Arv.set Ar96 q96 S96 M96 H96 U96 (fits_nar_byte _) W97 0 rfl (by show 0 < 2; decide)
    rw [hb96] at V98
    have E99 := B93.wr W97
    have Z97 : n0 ≤ h97.size := by rw [W97.size]; exact Z93
    have hc45_100 : (1 : Int32) < (2 : Int32) := (by decide)
    obtain ⟨cl101, Ar101, q101, S101, M101, H101, U101⟩ := id V98
    obtain ⟨T102, h102, X102, e102, W102, st102⟩ := stB X97 hx hZ e97 Ar101 (j := (1 : Int32)) (by rw [S101]; decide) (g := (mkF m 53 #[.val (.int p1), .val (.int p2), .val (.int p3), .val (.int p4), .val (.int p5), .val (.int (2 : Int32)), .val (.int ev0), .val (.int ev1), .val (.int ev2), .val (.int ev3), .val (.ref a93), .unset, .unset, .unset] [(.int ev1), (.int (1 : Int32)), (.ref a93)])) rfl rfl (hb hby at_53)
    have N102 := Fr.snoc X102 N97 lo93
    have V103 : Arv Z h102 a93 k93 .byte (2 : Int32) [(.int ev0), (.int (nar .byte ev1))] (.int (0 : Int32)) := Arv.set Ar101 q101 S101 M101 H101 U101 (fits_nar_byte _) W102 1 rfl (by show 1 < 2; decide)
    rw [hb97] at V103
    have E104 := E99.wr W102
    have Z102 : n0 ≤ h102.size := by rw [W102.size]; exact Z97
    have hc57_105 : ¬ ((2 : Int32) < (2 : Int32)) := (by decide)
    have hc69_106 : ¬ ((3 : Int32) < (2 : Int32)) := (by decide)
    obtain ⟨_, _, ⟨T107, uL107, uk107, un107⟩, -, X107, ⟨Lc107, hQ107, ul107, uy107, uz107⟩, st107⟩ := Jvm.LawKit.callS X102 hx (y := (⟨"com/example/cicada/cicada/core/Payload", "of", "([B)Lcom/example/cicada/cicada/core/Payload;"⟩ : MethodName)) hown (mvT hZ (hw _ (List.mem_of_getElem? (i := 2) rfl))) (mvT hZ (hw _ (List.mem_of_getElem? (i := 3) rfl))) (mvT hZ (hw _ (List.mem_of_getElem? (i := 4) rfl))) (mvT hZ (hw _ (List.mem_of_getElem? (i := 5) rfl))) (by decide) (backOf (W := 0) (rm2 l Z a0 hw [] a93 k93 (2 : Int32) [(.int ev0), (.int ev1)] h102 n0 Z102 V103 E104 (by decide)) hZ (hw _ (List.mem_of_getElem? (i := 5) rfl)) (hw _ (List.mem_of_getElem? (i := 4) rfl)) (by decide) (by decide)) (g := (mkF m 80 #[.val (.int p1), .val (.int p2), .val (.int p3), .val (.int p4), .val (.int p5), .val (.int (2 : Int32)), .val (.int ev0), .val (.int ev1), .val (.int ev2), .val (.int ev3), .val (.ref a93), .unset, .unset, .unset] [(.ref a93)])) rfl (by rw [hml]; rfl) (argsL := [(.ref a93)]) (rest := []) (lenOf pd__28_5bB_29Lcom_2fexample_2fcicada_2fcicada_2fcore_2fPayload_3b rfl) rfl (by show 2 * 0 + _ ≤ _; exact Nat.le_of_eq rfl) (hb hby at_80) (fun _ _ => ⟨rfl, e102, (by decide : 1 + 2 ≤ _), (by decide : 2 + 5 ≤ _)⟩)
    dsimp only [Pt.U, Pt.locs, Pt.cells, Pt.slots] at X107 ul107 uy107 uz107 st107 hQ107
    subst ul107 uy107 uz107
    obtain ⟨r107, s107, rfl, Nq107, K107, ge107, lt107, Er107, Fr107, Es107, Vs107⟩ := hQ107
    have lr107_a93 : a93 < r107 := Nat.lt_of_lt_of_le E104.lt ge107
    have ls107_a93 : a93 < s107 := Nat.lt_trans lr107_a93 lt107
    have E108 := E104.keep K107
    have V109 := V103.keep K107 nin0
    have Z107 : n0 ≤ T107.heap.size := Nat.le_trans Z102 K107.1
    have N107 := Fr.app N102 Nq107
    obtain ⟨cq110, kq110, qa110, qb110, qc110⟩ := isOf hZ rfl Er107
    obtain ⟨_, _, ⟨T110, uL110, uk110, un110⟩, -, X110, ⟨Lc110, hQ110, ul110, uy110, uz110⟩, st110⟩ := X107.virtualBack hx (y := (⟨"com/example/cicada/cicada/core/Payload", "size", "()I"⟩ : MethodName)) (z := (⟨"com/example/cicada/cicada/core/Payload", "size", "()I"⟩ : MethodName)) hown (mvT hZ (hw _ (List.mem_of_getElem? (i := 25) rfl))) (mvT hZ (hw _ (List.mem_of_getElem? (i := 26) rfl))) (notFace_of_selects (args := #[]) (mvT hZ (hw _ (List.mem_of_getElem? (i := 28) rfl)))) (mvT hZ (hw _ (List.mem_of_getElem? (i := 28) rfl))) (mvT hZ (hw _ (List.mem_of_getElem? (i := 27) rfl))) (by decide) (backOf (W := 0) (rm3 l Z a0 hw [] r107 s107 k93 (2 : Int32) [(.int ev0), (.int ev1)] T107.heap n0 Z107 Fr107 Vs107) hZ (hw _ (List.mem_of_getElem? (i := 29) rfl)) (hw _ (List.mem_of_getElem? (i := 4) rfl)) (by decide) (by decide)) qa110 qc110 (g := (mkF m 94 #[.val (.int p1), .val (.int p2), .val (.int p3), .val (.int p4), .val (.int p5), .val (.int (2 : Int32)), .val (.int ev0), .val (.int ev1), .val (.int ev2), .val (.int ev3), .val (.ref a93), .val (.ref r107), .unset, .unset] [(.ref r107)])) rfl (by rw [hml]; rfl) (Steps.refl _) (argsL := []) (rest := []) (lenOf pd__28_29I rfl) rfl (by show 2 * 0 + _ ≤ _; exact Nat.le_of_eq rfl) (hb hby at_94) (fun _ _ => ⟨rfl, rfl, (by decide : 3 + 0 ≤ _), (by decide : 7 + 0 ≤ _)⟩)
    dsimp only [Pt.U, Pt.locs, Pt.cells, Pt.slots] at X110 ul110 uy110 uz110 st110 hQ110
    subst ul110 uy110 uz110
    obtain ⟨rfl, Nq110, e110⟩ := hQ110
    have N110 := Fr.app N107 Nq110
    have hc99_111 : (2 : Int32) = (2 : Int32) := (by decide)
    obtain ⟨cq112, kq112, qa112, qb112, qc112⟩ := isOf hZ e110 Er107
    obtain ⟨_, _, ⟨T112, uL112, uk112, un112⟩, -, X112, ⟨Lc112, hQ112, ul112, uy112, uz112⟩, st112⟩ := X110.virtualBack hx (y := (⟨"com/example/cicada/cicada/core/Payload", "bytes", "()[B"⟩ : MethodName)) (z := (⟨"com/example/cicada/cicada/core/Payload", "bytes", "()[B"⟩ : MethodName)) hown (mvT hZ (hw _ (List.mem_of_getElem? (i := 30) rfl))) (mvT hZ (hw _ (List.mem_of_getElem? (i := 31) rfl))) (notFace_of_selects (args := #[]) (mvT hZ (hw _ (List.mem_of_getElem? (i := 33) rfl)))) (mvT hZ (hw _ (List.mem_of_getElem? (i := 33) rfl))) (mvT hZ (hw _ (List.mem_of_getElem? (i := 32) rfl))) (by decide) (backOf (W := 0) (rm4 l Z a0 hw [] r107 s107 k93 (2 : Int32) [(.int ev0), (.int ev1)] T107.heap n0 Z107 Fr107 Vs107 Es107 (by decide)) hZ (hw _ (List.mem_of_getElem? (i := 34) rfl)) (hw _ (List.mem_of_getElem? (i := 4) rfl)) (by decide) (by decide)) qa112 qc112 (g := (mkF m 106 #[.val (.int p1), .val (.int p2), .val (.int p3), .val (.int p4), .val (.int p5), .val (.int (2 : Int32)), .val (.int ev0), .val (.int ev1), .val (.int ev2), .val (.int ev3), .val (.ref a93), .val (.ref r107), .unset, .unset] [(.ref r107)])) rfl (by rw [hml]; rfl) (Steps.refl _) (argsL := []) (rest := []) (lenOf pd__28_29_5bB rfl) rfl (by show 2 * 0 + _ ≤ _; exact Nat.le_of_eq rfl) (hb hby at_106) (fun _ _ => ⟨rfl, e110, (by decide : 3 + 1 ≤ _), (by decide : 7 + 4 ≤ _)⟩)
    dsimp only [Pt.U, Pt.locs, Pt.cells, Pt.slots] at X112 ul112 uy112 uz112 st112 hQ112
    subst ul112 uy112 uz112
    obtain ⟨r112, rfl, Nq112, K112, ge112, Er112, Vr112⟩ := hQ112
    have lr112_a93 : a93 < r112 := Nat.lt_of_lt_of_le E108.lt ge112
    have lr112_r107 : r107 < r112 := Nat.lt_of_lt_of_le Er107.lt ge112
    have lr112_s107 : s107 < r112 := Nat.lt_of_lt_of_le Es107.lt ge112
    have E113 := E108.keep K112
    have V114 := V109.keep K112 nin0
    have E115 := Er107.keep K112
    have E116 := Es107.keep K112
    have F117 := Fr107.keep K112 nin0
    have V118 := Vs107.keep K112 nin0
    have Z112 : n0 ≤ T112.heap.size := Nat.le_trans Z107 K112.1
    have N112 := Fr.app N110 Nq112
    obtain ⟨cl119, Ar119, q119, S119, M119, H119, U119⟩ := id Vr112
    obtain ⟨_, _, ⟨T120, uL120, uk120, un120⟩, -, X120, ⟨Lc120, hQ120, ul120, uy120, uz120⟩, st120⟩ := Jvm.LawKit.callS X112 hx (y := (⟨"com/example/cicada/cicada/core/PayloadOfPinLaw", "same", "([BIBBBB)Z"⟩ : MethodName)) hown (mvT hZ (hw _ (List.mem_of_getElem? (i := 35) rfl))) (mvT hZ (hw _ (List.mem_of_getElem? (i := 36) rfl))) (mvT hZ (hw _ (List.mem_of_getElem? (i := 37) rfl))) (mvT hZ (hw _ (List.mem_of_getElem? (i := 38) rfl))) (by decide) (backOf (W := 0) (rm5 l Z a0 hw [] r112 cl119 (fun i => ([ev0, ev1] : List Int32).getD i 0) (2 : Int32) (2 : Int32) ev0 ev1 ev2 ev3 T112.heap n0 Z112 Ar119 S119 M119 (own_has (xs := ([ev0, ev1] : List Int32)) H119 S119)) hZ (hw _ (List.mem_of_getElem? (i := 38) rfl)) (hw _ (List.mem_of_getElem? (i := 37) rfl)) (by decide) (by decide)) (g := (mkF m 123 #[.val (.int p1), .val (.int p2), .val (.int p3), .val (.int p4), .val (.int p5), .val (.int (2 : Int32)), .val (.int ev0), .val (.int ev1), .val (.int ev2), .val (.int ev3), .val (.ref a93), .val (.ref r107), .val (.ref r112), .unset] [(.int ev3), (.int ev2), (.int ev1), (.int ev0), (.int (2 : Int32)), (.ref r112)])) rfl (by rw [hml]; rfl) (argsL := [(.ref r112), (.int (2 : Int32)), (.int ev0), (.int ev1), (.int ev2), (.int ev3)]) (rest := []) (lenOf pd__28_5bBIBBBB_29Z rfl) rfl (by show 2 * 0 + _ ≤ _; exact Nat.le_of_eq rfl) (hb hby at_123) (fun _ _ => ⟨rfl, rfl, (by decide : 4 + 0 ≤ _), (by decide : 11 + 0 ≤ _)⟩)
    dsimp only [Pt.U, Pt.locs, Pt.cells, Pt.slots] at X120 ul120 uy120 uz120 st120 hQ120
    subst ul120 uy120 uz120
    obtain ⟨rfl, Nq120, e120⟩ := hQ120
    have N120 := Fr.app N112 Nq120
    have hc126_121 : ¬ ((own_same_0 (fun i => ([ev0, ev1] : List Int32).getD i 0) (2 : Int32) (2 : Int32) ev0 ev1 ev2 ev3) = (0 : Int32)) := by simp [own_same_0, own_same_27, own_same_41, own_same_56]
    have hc133_122 : (0 : Int32) < (2 : Int32) := (by decide)
    obtain ⟨cl123, Ar123, q123, S123, M123, H123, U123⟩ := id V114
    obtain ⟨T124, h124, X124, e124, W124, st124⟩ := stB X120 hx hZ e120 Ar123 (j := (0 : Int32)) (by rw [S123]; decide) (g := (mkF m 144 #[.val (.int p1), .val (.int p2), .val (.int p3), .val (.int p4), .val (.int p5), .val (.int (2 : Int32)), .val (.int ev0), .val (.int ev1), .val (.int ev2), .val (.int ev3), .val (.ref a93), .val (.ref r107), .val (.ref r112), .unset] [(.int ((ev0 ^^^ (-1 : Int32)).toInt8.toInt32)), (.int (0 : Int32)), (.ref a93)])) rfl rfl (hb hby at_144)
    have N124 := Fr.snoc X124 N120 lo93
    have V125 : Arv Z h124 a93 k93 .byte (2 : Int32) [(.int (nar .byte ((ev0 ^^^ (-1 : Int32)).toInt8.toInt32))), (.int ev1)] (.int (0 : Int32)) := Arv.set Ar123 q123 S123 M123 H123 U123 (fits_nar_byte _) W124 0 rfl (by show 0 < 2; decide)
    have E126 := E113.wr W124
    have E127 := E115.wr W124
    have E128 := E116.wr W124
    have F129 := F117.other W124 (Or.inl (Nat.ne_of_gt lr107_a93))
    have V130 := V118.other W124 (Nat.ne_of_gt ls107_a93)
    have E131 := Er112.wr W124
    have V132 := Vr112.other W124 (Nat.ne_of_gt lr112_a93)
    have Z124 : n0 ≤ h124.size := by rw [W124.size]; exact Z112
    have hc148_133 : (1 : Int32) < (2 : Int32) := (by decide)
    obtain ⟨cl134, Ar134, q134, S134, M134, H134, U134⟩ := id V125
    obtain ⟨T135, h135, X135, e135, W135, st135⟩ := stB X124 hx hZ e124 Ar134 (j := (1 : Int32)) (by rw [S134]; decide) (g := (mkF m 159 #[.val (.int p1), .val (.int p2), .val (.int p3), .val (.int p4), .val (.int p5), .val (.int (2 : Int32)), .val (.int ev0), .val (.int ev1), .val (.int ev2), .val (.int ev3), .val (.ref a93), .val (.ref r107), .val (.ref r112), .unset] [(.int ((ev1 ^^^ (-1 : Int32)).toInt8.toInt32)), (.int (1 : Int32)), (.ref a93)])) rfl rfl (hb hby at_159)
    have N135 := Fr.snoc X135 N124 lo93
    have V136 : Arv Z h135 a93 k93 .byte (2 : Int32) [(.int (nar .byte ((ev0 ^^^ (-1 : Int32)).toInt8.toInt32))), (.int (nar .byte ((ev1 ^^^ (-1 : Int32)).toInt8.toInt32)))] (.int (0 : Int32)) := Arv.set Ar134 q134 S134 M134 H134 U134 (fits_nar_byte _) W135 1 rfl (by show 1 < 2; decide)
    have E137 := E126.wr W135
    have E138 := E127.wr W135
    have E139 := E128.wr W135
    have F140 := F129.other W135 (Or.inl (Nat.ne_of_gt lr107_a93))
    have V141 := V130.other W135 (Nat.ne_of_gt ls107_a93)
    have E142 := E131.wr W135
    have V143 := V132.other W135 (Nat.ne_of_gt lr112_a93)
    have Z135 : n0 ≤ h135.size := by rw [W135.size]; exact Z124
    have hc163_144 : ¬ ((2 : Int32) < (2 : Int32)) := (by decide)
    have hc178_145 : ¬ ((3 : Int32) < (2 : Int32)) := (by decide)
    obtain ⟨cq146, kq146, qa146, qb146, qc146⟩ := isOf hZ e135 E138
    obtain ⟨_, _, ⟨T146, uL146, uk146, un146⟩, -, X146, ⟨Lc146, hQ146, ul146, uy146, uz146⟩, st146⟩ := X135.virtualBack hx (y := (⟨"com/example/cicada/cicada/core/Payload", "bytes", "()[B"⟩ : MethodName)) (z := (⟨"com/example/cicada/cicada/core/Payload", "bytes", "()[B"⟩ : MethodName)) hown (mvT hZ (hw _ (List.mem_of_getElem? (i := 30) rfl))) (mvT hZ (hw _ (List.mem_of_getElem? (i := 31) rfl))) (notFace_of_selects (args := #[]) (mvT hZ (hw _ (List.mem_of_getElem? (i := 33) rfl)))) (mvT hZ (hw _ (List.mem_of_getElem? (i := 33) rfl))) (mvT hZ (hw _ (List.mem_of_getElem? (i := 32) rfl))) (by decide) (backOf (W := 0) (rm4 l Z a0 hw [] r107 s107 k93 (2 : Int32) [(.int ev0), (.int ev1)] h135 n0 Z135 F140 V141 E139 (by decide)) hZ (hw _ (List.mem_of_getElem? (i := 34) rfl)) (hw _ (List.mem_of_getElem? (i := 4) rfl)) (by decide) (by decide)) qa146 qc146 (g := (mkF m 192 #[.val (.int p1), .val (.int p2), .val (.int p3), .val (.int p4), .val (.int p5), .val (.int (2 : Int32)), .val (.int ev0), .val (.int ev1), .val (.int ev2), .val (.int ev3), .val (.ref a93), .val (.ref r107), .val (.ref r112), .unset] [(.ref r107)])) rfl (by rw [hml]; rfl) (Steps.refl _) (argsL := []) (rest := []) (lenOf pd__28_29_5bB rfl) rfl (by show 2 * 0 + _ ≤ _; exact Nat.le_of_eq rfl) (hb hby at_192) (fun _ _ => ⟨rfl, e135, (by decide : 4 + 1 ≤ _), (by decide : 11 + 4 ≤ _)⟩)
    dsimp only [Pt.U, Pt.locs, Pt.cells, Pt.slots] at X146 ul146 uy146 uz146 st146 hQ146
    subst ul146 uy146 uz146
    obtain ⟨r146, rfl, Nq146, K146, ge146, Er146, Vr146⟩ := hQ146
    have lr146_a93 : a93 < r146 := Nat.lt_of_lt_of_le E137.lt ge146
    have lr146_r107 : r107 < r146 := Nat.lt_of_lt_of_le E138.lt ge146
    have lr146_s107 : s107 < r146 := Nat.lt_of_lt_of_le E139.lt ge146
    have lr146_r112 : r112 < r146 := Nat.lt_of_lt_of_le E142.lt ge146
    have E147 := E137.keep K146
    have V148 := V136.keep K146 nin0
    have E149 := E138.keep K146
    have E150 := E139.keep K146
    have F151 := F140.keep K146 nin0
    have V152 := V141.keep K146 nin0
    have E153 := E142.keep K146
    have V154 := V143.keep K146 nin0
    have Z146 : n0 ≤ T146.heap.size := Nat.le_trans Z135 K146.1
    have N146 := Fr.app N135 Nq146
    obtain ⟨cl155, Ar155, q155, S155, M155, H155, U155⟩ := id Vr146
    obtain ⟨_, _, ⟨T156, uL156, uk156, un156⟩, -, X156, ⟨Lc156, hQ156, ul156, uy156, uz156⟩, st156⟩ := Jvm.LawKit.callS X146 hx (y := (⟨"com/example/cicada/cicada/core/PayloadOfPinLaw", "same", "([BIBBBB)Z"⟩ : MethodName)) hown (mvT hZ (hw _ (List.mem_of_getElem? (i := 35) rfl))) (mvT hZ (hw _ (List.mem_of_getElem? (i := 36) rfl))) (mvT hZ (hw _ (List.mem_of_getElem? (i := 37) rfl))) (mvT hZ (hw _ (List.mem_of_getElem? (i := 38) rfl))) (by decide) (backOf (W := 0) (rm5 l Z a0 hw [] r146 cl155 (fun i => ([ev0, ev1] : List Int32).getD i 0) (2 : Int32) (2 : Int32) ev0 ev1 ev2 ev3 T146.heap n0 Z146 Ar155 S155 M155 (own_has (xs := ([ev0, ev1] : List Int32)) H155 S155)) hZ (hw _ (List.mem_of_getElem? (i := 38) rfl)) (hw _ (List.mem_of_getElem? (i := 37) rfl)) (by decide) (by decide)) (g := (mkF m 209 #[.val (.int p1), .val (.int p2), .val (.int p3), .val (.int p4), .val (.int p5), .val (.int (2 : Int32)), .val (.int ev0), .val (.int ev1), .val (.int ev2), .val (.int ev3), .val (.ref a93), .val (.ref r107), .val (.ref r112), .val (.ref r146)] [(.int ev3), (.int ev2), (.int ev1), (.int ev0), (.int (2 : Int32)), (.ref r146)])) rfl (by rw [hml]; rfl) (argsL := [(.ref r146), (.int (2 : Int32)), (.int ev0), (.int ev1), (.int ev2), (.int ev3)]) (rest := []) (lenOf pd__28_5bBIBBBB_29Z rfl) rfl (by show 2 * 0 + _ ≤ _; exact Nat.le_of_eq rfl) (hb hby at_209) (fun _ _ => ⟨rfl, rfl, (by decide : 5 + 0 ≤ _), (by decide : 15 + 0 ≤ _)⟩)
    dsimp only [Pt.U, Pt.locs, Pt.cells, Pt.slots] at X156 ul156 uy156 uz156 st156 hQ156
    subst ul156 uy156 uz156
    obtain ⟨rfl, Nq156, e156⟩ := hQ156
    have N156 := Fr.app N146 Nq156
    have hc212_157 : ¬ ((own_same_0 (fun i => ([ev0, ev1] : List Int32).getD i 0) (2 : Int32) (2 : Int32) ev0 ev1 ev2 ev3) = (0 : Int32)) := by simp [own_same_0, own_same_27, own_same_41, own_same_56]
    obtain ⟨cq158, kq158, qa158, qb158, qc158⟩ := isOf hZ e156 E149
    obtain ⟨_, _, ⟨T158, uL158, uk158, un158⟩, -, X158, ⟨Lc158, hQ158, ul158, uy158, uz158⟩, st158⟩ := X156.virtualBack hx (y := (⟨"com/example/cicada/cicada/core/Payload", "size", "()I"⟩ : MethodName)) (z := (⟨"com/example/cicada/cicada/core/Payload", "size", "()I"⟩ : MethodName)) hown (mvT hZ (hw _ (List.mem_of_getElem? (i := 25) rfl))) (mvT hZ (hw _ (List.mem_of_getElem? (i := 26) rfl))) (notFace_of_selects (args := #[]) (mvT hZ (hw _ (List.mem_of_getElem? (i := 28) rfl)))) (mvT hZ (hw _ (List.mem_of_getElem? (i := 28) rfl))) (mvT hZ (hw _ (List.mem_of_getElem? (i := 27) rfl))) (by decide) (backOf (W := 0) (rm3 l Z a0 hw [] r107 s107 k93 (2 : Int32) [(.int ev0), (.int ev1)] T146.heap n0 Z146 F151 V152) hZ (hw _ (List.mem_of_getElem? (i := 29) rfl)) (hw _ (List.mem_of_getElem? (i := 4) rfl)) (by decide) (by decide)) qa158 qc158 (g := (mkF m 219 #[.val (.int p1), .val (.int p2), .val (.int p3), .val (.int p4), .val (.int p5), .val (.int (2 : Int32)), .val (.int ev0), .val (.int ev1), .val (.int ev2), .val (.int ev3), .val (.ref a93), .val (.ref r107), .val (.ref r112), .val (.ref r146)] [(.ref r107)])) rfl (by rw [hml]; rfl) (Steps.refl _) (argsL := []) (rest := []) (lenOf pd__28_29I rfl) rfl (by show 2 * 0 + _ ≤ _; exact Nat.le_of_eq rfl) (hb hby at_219) (fun _ _ => ⟨rfl, e156, (by decide : 5 + 0 ≤ _), (by decide : 15 + 0 ≤ _)⟩)
    dsimp only [Pt.U, Pt.locs, Pt.cells, Pt.slots] at X158 ul158 uy158 uz158 st158 hQ158
    subst ul158 uy158 uz158
    obtain ⟨rfl, Nq158, e158⟩ := hQ158
    have N158 := Fr.app N156 Nq158
    have hc224_159 : (2 : Int32) = (2 : Int32) := (by decide)
    refine own_end X158 Bd.notSynchronized (v := some (.int (1 : Int32))) (fun h => by rw [Bd.returns] at h; cases h) (fun fs hr => ?_) e158 ?_ (by decide) (by decide)
    · show Steps p.tables e below (s₁.setTop (mkF m 25 #[.val (.int p1), .val (.int p2), .val (.int p3), .val (.int p4), .val (.int p5), .val (.int (2 : Int32)), .val (.int ev0), .val (.int ev1), .val (.int ev2), .val (.int ev3), .unset, .unset, .unset, .unset] [])) _
      refine XS.iload X0.here hx rfl (hb hby at_25) rfl ?_
      show Steps p.tables e below (s₁.setTop (mkF m 27 #[.val (.int p1), .val (.int p2), .val (.int p3), .val (.int p4), .val (.int p5), .val (.int (2 : Int32)), .val (.int ev0), .val (.int ev1), .val (.int ev2), .val (.int ev3), .unset, .unset, .unset, .unset] [(.int (2 : Int32))])) _
      refine st93 _ ?_
      show Steps p.tables e below (T93.setTop (mkF m 29 #[.val (.int p1), .val (.int p2), .val (.int p3), .val (.int p4), .val (.int p5), .val (.int (2 : Int32)), .val (.int ev0), .val (.int ev1), .val (.int ev2), .val (.int ev3), .unset, .unset, .unset, .unset] [(.ref a93)])) _
      refine XS.astore X93.here hx rfl (hb hby at_29) rfl rfl (l' := #[.val (.int p1), .val (.int p2), .val (.int p3), .val (.int p4), .val (.int p5), .val (.int (2 : Int32)), .val (.int ev0), .val (.int ev1), .val (.int ev2), .val (.int ev3), .val (.ref a93), .unset, .unset, .unset]) rfl ?_
      show Steps p.tables e below (T93.setTop (mkF m 31 #[.val (.int p1), .val (.int p2), .val (.int p3), .val (.int p4), .val (.int p5), .val (.int (2 : Int32)), .val (.int ev0), .val (.int ev1), .val (.int ev2), .val (.int ev3), .val (.ref a93), .unset, .unset, .unset] [])) _
      refine XS.iload X93.here hx rfl (hb hby at_31) rfl ?_
      show Steps p.tables e below (T93.setTop (mkF m 33 #[.val (.int p1), .val (.int p2), .val (.int p3), .val (.int p4), .val (.int p5), .val (.int (2 : Int32)), .val (.int ev0), .val (.int ev1), .val (.int ev2), .val (.int ev3), .val (.ref a93), .unset, .unset, .unset] [(.int (2 : Int32))])) _
      refine XS.ifNo X93.here hx rfl (hb hby at_33) rfl ((if0 _ _).trans (tlt hc33_95).2.2.2) ?_
      show Steps p.tables e below (T93.setTop (mkF m 36 #[.val (.int p1), .val (.int p2), .val (.int p3), .val (.int p4), .val (.int p5), .val (.int (2 : Int32)), .val (.int ev0), .val (.int ev1), .val (.int ev2), .val (.int ev3), .val (.ref a93), .unset, .unset, .unset] [])) _
      refine XS.aload X93.here hx rfl (hb hby at_36) rfl rfl ?_
      show Steps p.tables e below (T93.setTop (mkF m 38 #[.val (.int p1), .val (.int p2), .val (.int p3), .val (.int p4), .val (.int p5), .val (.int (2 : Int32)), .val (.int ev0), .val (.int ev1), .val (.int ev2), .val (.int ev3), .val (.ref a93), .unset, .unset, .unset] [(.ref a93)])) _
      refine XS.iconst X93.here hx rfl (hb hby at_38) ?_
      show Steps p.tables e below (T93.setTop (mkF m 39 #[.val (.int p1), .val (.int p2), .val (.int p3), .val (.int p4), .val (.int p5), .val (.int (2 : Int32)), .val (.int ev0), .val (.int ev1), .val (.int ev2), .val (.int ev3), .val (.ref a93), .unset, .unset, .unset] [(.int (0 : Int32)), (.ref a93)])) _
      refine XS.iload X93.here hx rfl (hb hby at_39) rfl ?_
      show Steps p.tables e below (T93.setTop (mkF m 41 #[.val (.int p1), .val (.int p2), .val (.int p3), .val (.int p4), .val (.int p5), .val (.int (2 : Int32)), .val (.int ev0), .val (.int ev1), .val (.int ev2), .val (.int ev3), .val (.ref a93), .unset, .unset, .unset] [(.int ev0), (.int (0 : Int32)), (.ref a93)])) _
      refine st97 _ ?_
      show Steps p.tables e below (T97.setTop (mkF m 42 #[.val (.int p1), .val (.int p2), .val (.int p3), .val (.int p4), .val (.int p5), .val (.int (2 : Int32)), .val (.int ev0), .val (.int ev1), .val (.int ev2), .val (.int ev3), .val (.ref a93), .unset, .unset, .unset] [])) _
      refine XS.iload X97.here hx rfl (hb hby at_42) rfl ?_
      show Steps p.tables e below (T97.setTop (mkF m 44 #[.val (.int p1), .val (.int p2), .val (.int p3), .val (.int p4), .val (.int p5), .val (.int (2 : Int32)), .val (.int ev0), .val (.int ev1), .val (.int ev2), .val (.int ev3), .val (.ref a93), .unset, .unset, .unset] [(.int (2 : Int32))])) _
      refine XS.iconst X97.here hx rfl (hb hby at_44) ?_
      show Steps p.tables e below (T97.setTop (mkF m 45 #[.val (.int p1), .val (.int p2), .val (.int p3), .val (.int p4), .val (.int p5), .val (.int (2 : Int32)), .val (.int ev0), .val (.int ev1), .val (.int ev2), .val (.int ev3), .val (.ref a93), .unset, .unset, .unset] [(.int (1 : Int32)), (.int (2 : Int32))])) _
      refine XS.icmpNo X97.here hx rfl (hb hby at_45) rfl (tlt hc45_100).2.2.2 ?_
      show Steps p.tables e below (T97.setTop (mkF m 48 #[.val (.int p1), .val (.int p2), .val (.int p3), .val (.int p4), .val (.int p5), .val (.int (2 : Int32)), .val (.int ev0), .val (.int ev1), .val (.int ev2), .val (.int ev3), .val (.ref a93), .unset, .unset, .unset] [])) _
      refine XS.aload X97.here hx rfl (hb hby at_48) rfl rfl ?_
      show Steps p.tables e below (T97.setTop (mkF m 50 #[.val (.int p1), .val (.int p2), .val (.int p3), .val (.int p4), .val (.int p5), .val (.int (2 : Int32)), .val (.int ev0), .val (.int ev1), .val (.int ev2), .val (.int ev3), .val (.ref a93), .unset, .unset, .unset] [(.ref a93)])) _
      refine XS.iconst X97.here hx rfl (hb hby at_50) ?_
      show Steps p.tables e below (T97.setTop (mkF m 51 #[.val (.int p1), .val (.int p2), .val (.int p3), .val (.int p4), .val (.int p5), .val (.int (2 : Int32)), .val (.int ev0), .val (.int ev1), .val (.int ev2), .val (.int ev3), .val (.ref a93), .unset, .unset, .unset] [(.int (1 : Int32)), (.ref a93)])) _
      refine XS.iload X97.here hx rfl (hb hby at_51) rfl ?_
      show Steps p.tables e below (T97.setTop (mkF m 53 #[.val (.int p1), .val (.int p2), .val (.int p3), .val (.int p4), .val (.int p5), .val (.int (2 : Int32)), .val (.int ev0), .val (.int ev1), .val (.int ev2), .val (.int ev3), .val (.ref a93), .unset, .unset, .unset] [(.int ev1), (.int (1 : Int32)), (.ref a93)])) _
      refine st102 _ ?_
      show Steps p.tables e below (T102.setTop (mkF m 54 #[.val (.int p1), .val (.int p2), .val (.int p3), .val (.int p4), .val (.int p5), .val (.int (2 : Int32)), .val (.int ev0), .val (.int ev1), .val (.int ev2), .val (.int ev3), .val (.ref a93), .unset, .unset, .unset] [])) _
      refine XS.iload X102.here hx rfl (hb hby at_54) rfl ?_
      show Steps p.tables e below (T102.setTop (mkF m 56 #[.val (.int p1), .val (.int p2), .val (.int p3), .val (.int p4), .val (.int p5), .val (.int (2 : Int32)), .val (.int ev0), .val (.int ev1), .val (.int ev2), .val (.int ev3), .val (.ref a93), .unset, .unset, .unset] [(.int (2 : Int32))])) _
      refine XS.iconst X102.here hx rfl (hb hby at_56) ?_
      show Steps p.tables e below (T102.setTop (mkF m 57 #[.val (.int p1), .val (.int p2), .val (.int p3), .val (.int p4), .val (.int p5), .val (.int (2 : Int32)), .val (.int ev0), .val (.int ev1), .val (.int ev2), .val (.int ev3), .val (.ref a93), .unset, .unset, .unset] [(.int (2 : Int32)), (.int (2 : Int32))])) _
      refine XS.icmpYes X102.here hx rfl (pc0 := 57) (pc' := 66) rfl (hb hby at_57) rfl (flt hc57_105).2.2.2 (by decide) (by decide) ?_
      show Steps p.tables e below (T102.setTop (mkF m 66 #[.val (.int p1), .val (.int p2), .val (.int p3), .val (.int p4), .val (.int p5), .val (.int (2 : Int32)), .val (.int ev0), .val (.int ev1), .val (.int ev2), .val (.int ev3), .val (.ref a93), .unset, .unset, .unset] [])) _
      refine XS.iload X102.here hx rfl (hb hby at_66) rfl ?_
      show Steps p.tables e below (T102.setTop (mkF m 68 #[.val (.int p1), .val (.int p2), .val (.int p3), .val (.int p4), .val (.int p5), .val (.int (2 : Int32)), .val (.int ev0), .val (.int ev1), .val (.int ev2), .val (.int ev3), .val (.ref a93), .unset, .unset, .unset] [(.int (2 : Int32))])) _
      refine XS.iconst X102.here hx rfl (hb hby at_68) ?_
      show Steps p.tables e below (T102.setTop (mkF m 69 #[.val (.int p1), .val (.int p2), .val (.int p3), .val (.int p4), .val (.int p5), .val (.int (2 : Int32)), .val (.int ev0), .val (.int ev1), .val (.int ev2), .val (.int ev3), .val (.ref a93), .unset, .unset, .unset] [(.int (3 : Int32)), (.int (2 : Int32))])) _
      refine XS.icmpYes X102.here hx rfl (pc0 := 69) (pc' := 78) rfl (hb hby at_69) rfl (flt hc69_106).2.2.2 (by decide) (by decide) ?_
      show Steps p.tables e below (T102.setTop (mkF m 78 #[.val (.int p1), .val (.int p2), .val (.int p3), .val (.int p4), .val (.int p5), .val (.int (2 : Int32)), .val (.int ev0), .val (.int ev1), .val (.int ev2), .val (.int ev3), .val (.ref a93), .unset, .unset, .unset] [])) _
      refine XS.aload X102.here hx rfl (hb hby at_78) rfl rfl ?_
      show Steps p.tables e below (T102.setTop (mkF m 80 #[.val (.int p1), .val (.int p2), .val (.int p3), .val (.int p4), .val (.int p5), .val (.int (2 : Int32)), .val (.int ev0), .val (.int ev1), .val (.int ev2), .val (.int ev3), .val (.ref a93), .unset, .unset, .unset] [(.ref a93)])) _
      refine st107 _ ?_
      show Steps p.tables e below (T107.setTop (mkF m 83 #[.val (.int p1), .val (.int p2), .val (.int p3), .val (.int p4), .val (.int p5), .val (.int (2 : Int32)), .val (.int ev0), .val (.int ev1), .val (.int ev2), .val (.int ev3), .val (.ref a93), .unset, .unset, .unset] [(.ref r107)])) _
      refine XS.astore X107.here hx rfl (hb hby at_83) rfl rfl (l' := #[.val (.int p1), .val (.int p2), .val (.int p3), .val (.int p4), .val (.int p5), .val (.int (2 : Int32)), .val (.int ev0), .val (.int ev1), .val (.int ev2), .val (.int ev3), .val (.ref a93), .val (.ref r107), .unset, .unset]) rfl ?_
      show Steps p.tables e below (T107.setTop (mkF m 85 #[.val (.int p1), .val (.int p2), .val (.int p3), .val (.int p4), .val (.int p5), .val (.int (2 : Int32)), .val (.int ev0), .val (.int ev1), .val (.int ev2), .val (.int ev3), .val (.ref a93), .val (.ref r107), .unset, .unset] [])) _
      refine XS.aload X107.here hx rfl (hb hby at_85) rfl rfl ?_
      show Steps p.tables e below (T107.setTop (mkF m 87 #[.val (.int p1), .val (.int p2), .val (.int p3), .val (.int p4), .val (.int p5), .val (.int (2 : Int32)), .val (.int ev0), .val (.int ev1), .val (.int ev2), .val (.int ev3), .val (.ref a93), .val (.ref r107), .unset, .unset] [(.ref r107)])) _
      refine XS.ifnonnullYes X107.here hx rfl (pc0 := 87) (pc' := 92) rfl (hb hby at_87) rfl (by decide) (by decide) ?_
      show Steps p.tables e below (T107.setTop (mkF m 92 #[.val (.int p1), .val (.int p2), .val (.int p3), .val (.int p4), .val (.int p5), .val (.int (2 : Int32)), .val (.int ev0), .val (.int ev1), .val (.int ev2), .val (.int ev3), .val (.ref a93), .val (.ref r107), .unset, .unset] [])) _
      refine XS.aload X107.here hx rfl (hb hby at_92) rfl rfl ?_
      show Steps p.tables e below (T107.setTop (mkF m 94 #[.val (.int p1), .val (.int p2), .val (.int p3), .val (.int p4), .val (.int p5), .val (.int (2 : Int32)), .val (.int ev0), .val (.int ev1), .val (.int ev2), .val (.int ev3), .val (.ref a93), .val (.ref r107), .unset, .unset] [(.ref r107)])) _
      refine st110.trans ?_
      show Steps p.tables e below (T110.setTop (mkF m 97 #[.val (.int p1), .val (.int p2), .val (.int p3), .val (.int p4), .val (.int p5), .val (.int (2 : Int32)), .val (.int ev0), .val (.int ev1), .val (.int ev2), .val (.int ev3), .val (.ref a93), .val (.ref r107), .unset, .unset] [(.int (2 : Int32))])) _
      refine XS.iload X110.here hx rfl (hb hby at_97) rfl ?_
      show Steps p.tables e below (T110.setTop (mkF m 99 #[.val (.int p1), .val (.int p2), .val (.int p3), .val (.int p4), .val (.int p5), .val (.int (2 : Int32)), .val (.int ev0), .val (.int ev1), .val (.int ev2), .val (.int ev3), .val (.ref a93), .val (.ref r107), .unset, .unset] [(.int (2 : Int32)), (.int (2 : Int32))])) _
      refine XS.icmpYes X110.here hx rfl (pc0 := 99) (pc' := 104) rfl (hb hby at_99) rfl (teq hc99_111).1 (by decide) (by decide) ?_
      show Steps p.tables e below (T110.setTop (mkF m 104 #[.val (.int p1), .val (.int p2), .val (.int p3), .val (.int p4), .val (.int p5), .val (.int (2 : Int32)), .val (.int ev0), .val (.int ev1), .val (.int ev2), .val (.int ev3), .val (.ref a93), .val (.ref r107), .unset, .unset] [])) _
      refine XS.aload X110.here hx rfl (hb hby at_104) rfl rfl ?_
      show Steps p.tables e below (T110.setTop (mkF m 106 #[.val (.int p1), .val (.int p2), .val (.int p3), .val (.int p4), .val (.int p5), .val (.int (2 : Int32)), .val (.int ev0), .val (.int ev1), .val (.int ev2), .val (.int ev3), .val (.ref a93), .val (.ref r107), .unset, .unset] [(.ref r107)])) _
      refine st112.trans ?_
      show Steps p.tables e below (T112.setTop (mkF m 109 #[.val (.int p1), .val (.int p2), .val (.int p3), .val (.int p4), .val (.int p5), .val (.int (2 : Int32)), .val (.int ev0), .val (.int ev1), .val (.int ev2), .val (.int ev3), .val (.ref a93), .val (.ref r107), .unset, .unset] [(.ref r112)])) _
      refine XS.astore X112.here hx rfl (hb hby at_109) rfl rfl (l' := #[.val (.int p1), .val (.int p2), .val (.int p3), .val (.int p4), .val (.int p5), .val (.int (2 : Int32)), .val (.int ev0), .val (.int ev1), .val (.int ev2), .val (.int ev3), .val (.ref a93), .val (.ref r107), .val (.ref r112), .unset]) rfl ?_
      show Steps p.tables e below (T112.setTop (mkF m 111 #[.val (.int p1), .val (.int p2), .val (.int p3), .val (.int p4), .val (.int p5), .val (.int (2 : Int32)), .val (.int ev0), .val (.int ev1), .val (.int ev2), .val (.int ev3), .val (.ref a93), .val (.ref r107), .val (.ref r112), .unset] [])) _
      refine XS.aload X112.here hx rfl (hb hby at_111) rfl rfl ?_
      show Steps p.tables e below (T112.setTop (mkF m 113 #[.val (.int p1), .val (.int p2), .val (.int p3), .val (.int p4), .val (.int p5), .val (.int (2 : Int32)), .val (.int ev0), .val (.int ev1), .val (.int ev2), .val (.int ev3), .val (.ref a93), .val (.ref r107), .val (.ref r112), .unset] [(.ref r112)])) _
      refine XS.iload X112.here hx rfl (hb hby at_113) rfl ?_
      show Steps p.tables e below (T112.setTop (mkF m 115 #[.val (.int p1), .val (.int p2), .val (.int p3), .val (.int p4), .val (.int p5), .val (.int (2 : Int32)), .val (.int ev0), .val (.int ev1), .val (.int ev2), .val (.int ev3), .val (.ref a93), .val (.ref r107), .val (.ref r112), .unset] [(.int (2 : Int32)), (.ref r112)])) _
      refine XS.iload X112.here hx rfl (hb hby at_115) rfl ?_
      show Steps p.tables e below (T112.setTop (mkF m 117 #[.val (.int p1), .val (.int p2), .val (.int p3), .val (.int p4), .val (.int p5), .val (.int (2 : Int32)), .val (.int ev0), .val (.int ev1), .val (.int ev2), .val (.int ev3), .val (.ref a93), .val (.ref r107), .val (.ref r112), .unset] [(.int ev0), (.int (2 : Int32)), (.ref r112)])) _
      refine XS.iload X112.here hx rfl (hb hby at_117) rfl ?_
      show Steps p.tables e below (T112.setTop (mkF m 119 #[.val (.int p1), .val (.int p2), .val (.int p3), .val (.int p4), .val (.int p5), .val (.int (2 : Int32)), .val (.int ev0), .val (.int ev1), .val (.int ev2), .val (.int ev3), .val (.ref a93), .val (.ref r107), .val (.ref r112), .unset] [(.int ev1), (.int ev0), (.int (2 : Int32)), (.ref r112)])) _
      refine XS.iload X112.here hx rfl (hb hby at_119) rfl ?_
      show Steps p.tables e below (T112.setTop (mkF m 121 #[.val (.int p1), .val (.int p2), .val (.int p3), .val (.int p4), .val (.int p5), .val (.int (2 : Int32)), .val (.int ev0), .val (.int ev1), .val (.int ev2), .val (.int ev3), .val (.ref a93), .val (.ref r107), .val (.ref r112), .unset] [(.int ev2), (.int ev1), (.int ev0), (.int (2 : Int32)), (.ref r112)])) _
      refine XS.iload X112.here hx rfl (hb hby at_121) rfl ?_
      show Steps p.tables e below (T112.setTop (mkF m 123 #[.val (.int p1), .val (.int p2), .val (.int p3), .val (.int p4), .val (.int p5), .val (.int (2 : Int32)), .val (.int ev0), .val (.int ev1), .val (.int ev2), .val (.int ev3), .val (.ref a93), .val (.ref r107), .val (.ref r112), .unset] [(.int ev3), (.int ev2), (.int ev1), (.int ev0), (.int (2 : Int32)), (.ref r112)])) _
      refine st120 _ ?_
      show Steps p.tables e below (T120.setTop (mkF m 126 #[.val (.int p1), .val (.int p2), .val (.int p3), .val (.int p4), .val (.int p5), .val (.int (2 : Int32)), .val (.int ev0), .val (.int ev1), .val (.int ev2), .val (.int ev3), .val (.ref a93), .val (.ref r107), .val (.ref r112), .unset] [(.int (own_same_0 (fun i => ([ev0, ev1] : List Int32).getD i 0) (2 : Int32) (2 : Int32) ev0 ev1 ev2 ev3))])) _
      refine XS.ifYes X120.here hx rfl (pc0 := 126) (pc' := 131) rfl (hb hby at_126) rfl ((if0 _ _).trans (feq hc126_121).2) (by decide) (by decide) ?_
      show Steps p.tables e below (T120.setTop (mkF m 131 #[.val (.int p1), .val (.int p2), .val (.int p3), .val (.int p4), .val (.int p5), .val (.int (2 : Int32)), .val (.int ev0), .val (.int ev1), .val (.int ev2), .val (.int ev3), .val (.ref a93), .val (.ref r107), .val (.ref r112), .unset] [])) _
      refine XS.iload X120.here hx rfl (hb hby at_131) rfl ?_
      show Steps p.tables e below (T120.setTop (mkF m 133 #[.val (.int p1), .val (.int p2), .val (.int p3), .val (.int p4), .val (.int p5), .val (.int (2 : Int32)), .val (.int ev0), .val (.int ev1), .val (.int ev2), .val (.int ev3), .val (.ref a93), .val (.ref r107), .val (.ref r112), .unset] [(.int (2 : Int32))])) _
      refine XS.ifNo X120.here hx rfl (hb hby at_133) rfl ((if0 _ _).trans (tlt hc133_122).2.2.2) ?_
      show Steps p.tables e below (T120.setTop (mkF m 136 #[.val (.int p1), .val (.int p2), .val (.int p3), .val (.int p4), .val (.int p5), .val (.int (2 : Int32)), .val (.int ev0), .val (.int ev1), .val (.int ev2), .val (.int ev3), .val (.ref a93), .val (.ref r107), .val (.ref r112), .unset] [])) _
      refine XS.aload X120.here hx rfl (hb hby at_136) rfl rfl ?_
      show Steps p.tables e below (T120.setTop (mkF m 138 #[.val (.int p1), .val (.int p2), .val (.int p3), .val (.int p4), .val (.int p5), .val (.int (2 : Int32)), .val (.int ev0), .val (.int ev1), .val (.int ev2), .val (.int ev3), .val (.ref a93), .val (.ref r107), .val (.ref r112), .unset] [(.ref a93)])) _
      refine XS.iconst X120.here hx rfl (hb hby at_138) ?_
      show Steps p.tables e below (T120.setTop (mkF m 139 #[.val (.int p1), .val (.int p2), .val (.int p3), .val (.int p4), .val (.int p5), .val (.int (2 : Int32)), .val (.int ev0), .val (.int ev1), .val (.int ev2), .val (.int ev3), .val (.ref a93), .val (.ref r107), .val (.ref r112), .unset] [(.int (0 : Int32)), (.ref a93)])) _
      refine XS.iload X120.here hx rfl (hb hby at_139) rfl ?_
      show Steps p.tables e below (T120.setTop (mkF m 141 #[.val (.int p1), .val (.int p2), .val (.int p3), .val (.int p4), .val (.int p5), .val (.int (2 : Int32)), .val (.int ev0), .val (.int ev1), .val (.int ev2), .val (.int ev3), .val (.ref a93), .val (.ref r107), .val (.ref r112), .unset] [(.int ev0), (.int (0 : Int32)), (.ref a93)])) _
      refine XS.iconst X120.here hx rfl (hb hby at_141) ?_
      show Steps p.tables e below (T120.setTop (mkF m 142 #[.val (.int p1), .val (.int p2), .val (.int p3), .val (.int p4), .val (.int p5), .val (.int (2 : Int32)), .val (.int ev0), .val (.int ev1), .val (.int ev2), .val (.int ev3), .val (.ref a93), .val (.ref r107), .val (.ref r112), .unset] [(.int (-1 : Int32)), (.int ev0), (.int (0 : Int32)), (.ref a93)])) _
      refine XS.ixor X120.here hx rfl (hb hby at_142) rfl ?_
      show Steps p.tables e below (T120.setTop (mkF m 143 #[.val (.int p1), .val (.int p2), .val (.int p3), .val (.int p4), .val (.int p5), .val (.int (2 : Int32)), .val (.int ev0), .val (.int ev1), .val (.int ev2), .val (.int ev3), .val (.ref a93), .val (.ref r107), .val (.ref r112), .unset] [(.int (ev0 ^^^ (-1 : Int32))), (.int (0 : Int32)), (.ref a93)])) _
      refine XS.i2b X120.here hx rfl (hb hby at_143) rfl ?_
      show Steps p.tables e below (T120.setTop (mkF m 144 #[.val (.int p1), .val (.int p2), .val (.int p3), .val (.int p4), .val (.int p5), .val (.int (2 : Int32)), .val (.int ev0), .val (.int ev1), .val (.int ev2), .val (.int ev3), .val (.ref a93), .val (.ref r107), .val (.ref r112), .unset] [(.int ((ev0 ^^^ (-1 : Int32)).toInt8.toInt32)), (.int (0 : Int32)), (.ref a93)])) _
      refine st124 _ ?_
      show Steps p.tables e below (T124.setTop (mkF m 145 #[.val (.int p1), .val (.int p2), .val (.int p3), .val (.int p4), .val (.int p5), .val (.int (2 : Int32)), .val (.int ev0), .val (.int ev1), .val (.int ev2), .val (.int ev3), .val (.ref a93), .val (.ref r107), .val (.ref r112), .unset] [])) _
      refine XS.iload X124.here hx rfl (hb hby at_145) rfl ?_
      show Steps p.tables e below (T124.setTop (mkF m 147 #[.val (.int p1), .val (.int p2), .val (.int p3), .val (.int p4), .val (.int p5), .val (.int (2 : Int32)), .val (.int ev0), .val (.int ev1), .val (.int ev2), .val (.int ev3), .val (.ref a93), .val (.ref r107), .val (.ref r112), .unset] [(.int (2 : Int32))])) _
      refine XS.iconst X124.here hx rfl (hb hby at_147) ?_
      show Steps p.tables e below (T124.setTop (mkF m 148 #[.val (.int p1), .val (.int p2), .val (.int p3), .val (.int p4), .val (.int p5), .val (.int (2 : Int32)), .val (.int ev0), .val (.int ev1), .val (.int ev2), .val (.int ev3), .val (.ref a93), .val (.ref r107), .val (.ref r112), .unset] [(.int (1 : Int32)), (.int (2 : Int32))])) _
      refine XS.icmpNo X124.here hx rfl (hb hby at_148) rfl (tlt hc148_133).2.2.2 ?_
      show Steps p.tables e below (T124.setTop (mkF m 151 #[.val (.int p1), .val (.int p2), .val (.int p3), .val (.int p4), .val (.int p5), .val (.int (2 : Int32)), .val (.int ev0), .val (.int ev1), .val (.int ev2), .val (.int ev3), .val (.ref a93), .val (.ref r107), .val (.ref r112), .unset] [])) _
      refine XS.aload X124.here hx rfl (hb hby at_151) rfl rfl ?_
      show Steps p.tables e below (T124.setTop (mkF m 153 #[.val (.int p1), .val (.int p2), .val (.int p3), .val (.int p4), .val (.int p5), .val (.int (2 : Int32)), .val (.int ev0), .val (.int ev1), .val (.int ev2), .val (.int ev3), .val (.ref a93), .val (.ref r107), .val (.ref r112), .unset] [(.ref a93)])) _
      refine XS.iconst X124.here hx rfl (hb hby at_153) ?_
      show Steps p.tables e below (T124.setTop (mkF m 154 #[.val (.int p1), .val (.int p2), .val (.int p3), .val (.int p4), .val (.int p5), .val (.int (2 : Int32)), .val (.int ev0), .val (.int ev1), .val (.int ev2), .val (.int ev3), .val (.ref a93), .val (.ref r107), .val (.ref r112), .unset] [(.int (1 : Int32)), (.ref a93)])) _
      refine XS.iload X124.here hx rfl (hb hby at_154) rfl ?_
      show Steps p.tables e below (T124.setTop (mkF m 156 #[.val (.int p1), .val (.int p2), .val (.int p3), .val (.int p4), .val (.int p5), .val (.int (2 : Int32)), .val (.int ev0), .val (.int ev1), .val (.int ev2), .val (.int ev3), .val (.ref a93), .val (.ref r107), .val (.ref r112), .unset] [(.int ev1), (.int (1 : Int32)), (.ref a93)])) _
      refine XS.iconst X124.here hx rfl (hb hby at_156) ?_
      show Steps p.tables e below (T124.setTop (mkF m 157 #[.val (.int p1), .val (.int p2), .val (.int p3), .val (.int p4), .val (.int p5), .val (.int (2 : Int32)), .val (.int ev0), .val (.int ev1), .val (.int ev2), .val (.int ev3), .val (.ref a93), .val (.ref r107), .val (.ref r112), .unset] [(.int (-1 : Int32)), (.int ev1), (.int (1 : Int32)), (.ref a93)])) _
      refine XS.ixor X124.here hx rfl (hb hby at_157) rfl ?_
      show Steps p.tables e below (T124.setTop (mkF m 158 #[.val (.int p1), .val (.int p2), .val (.int p3), .val (.int p4), .val (.int p5), .val (.int (2 : Int32)), .val (.int ev0), .val (.int ev1), .val (.int ev2), .val (.int ev3), .val (.ref a93), .val (.ref r107), .val (.ref r112), .unset] [(.int (ev1 ^^^ (-1 : Int32))), (.int (1 : Int32)), (.ref a93)])) _
      refine XS.i2b X124.here hx rfl (hb hby at_158) rfl ?_
      show Steps p.tables e below (T124.setTop (mkF m 159 #[.val (.int p1), .val (.int p2), .val (.int p3), .val (.int p4), .val (.int p5), .val (.int (2 : Int32)), .val (.int ev0), .val (.int ev1), .val (.int ev2), .val (.int ev3), .val (.ref a93), .val (.ref r107), .val (.ref r112), .unset] [(.int ((ev1 ^^^ (-1 : Int32)).toInt8.toInt32)), (.int (1 : Int32)), (.ref a93)])) _
      refine st135 _ ?_
      show Steps p.tables e below (T135.setTop (mkF m 160 #[.val (.int p1), .val (.int p2), .val (.int p3), .val (.int p4), .val (.int p5), .val (.int (2 : Int32)), .val (.int ev0), .val (.int ev1), .val (.int ev2), .val (.int ev3), .val (.ref a93), .val (.ref r107), .val (.ref r112), .unset] [])) _
      refine XS.iload X135.here hx rfl (hb hby at_160) rfl ?_
      show Steps p.tables e below (T135.setTop (mkF m 162 #[.val (.int p1), .val (.int p2), .val (.int p3), .val (.int p4), .val (.int p5), .val (.int (2 : Int32)), .val (.int ev0), .val (.int ev1), .val (.int ev2), .val (.int ev3), .val (.ref a93), .val (.ref r107), .val (.ref r112), .unset] [(.int (2 : Int32))])) _
      refine XS.iconst X135.here hx rfl (hb hby at_162) ?_
      show Steps p.tables e below (T135.setTop (mkF m 163 #[.val (.int p1), .val (.int p2), .val (.int p3), .val (.int p4), .val (.int p5), .val (.int (2 : Int32)), .val (.int ev0), .val (.int ev1), .val (.int ev2), .val (.int ev3), .val (.ref a93), .val (.ref r107), .val (.ref r112), .unset] [(.int (2 : Int32)), (.int (2 : Int32))])) _
      refine XS.icmpYes X135.here hx rfl (pc0 := 163) (pc' := 175) rfl (hb hby at_163) rfl (flt hc163_144).2.2.2 (by decide) (by decide) ?_
      show Steps p.tables e below (T135.setTop (mkF m 175 #[.val (.int p1), .val (.int p2), .val (.int p3), .val (.int p4), .val (.int p5), .val (.int (2 : Int32)), .val (.int ev0), .val (.int ev1), .val (.int ev2), .val (.int ev3), .val (.ref a93), .val (.ref r107), .val (.ref r112), .unset] [])) _
      refine XS.iload X135.here hx rfl (hb hby at_175) rfl ?_
      show Steps p.tables e below (T135.setTop (mkF m 177 #[.val (.int p1), .val (.int p2), .val (.int p3), .val (.int p4), .val (.int p5), .val (.int (2 : Int32)), .val (.int ev0), .val (.int ev1), .val (.int ev2), .val (.int ev3), .val (.ref a93), .val (.ref r107), .val (.ref r112), .unset] [(.int (2 : Int32))])) _
      refine XS.iconst X135.here hx rfl (hb hby at_177) ?_
      show Steps p.tables e below (T135.setTop (mkF m 178 #[.val (.int p1), .val (.int p2), .val (.int p3), .val (.int p4), .val (.int p5), .val (.int (2 : Int32)), .val (.int ev0), .val (.int ev1), .val (.int ev2), .val (.int ev3), .val (.ref a93), .val (.ref r107), .val (.ref r112), .unset] [(.int (3 : Int32)), (.int (2 : Int32))])) _
      refine XS.icmpYes X135.here hx rfl (pc0 := 178) (pc' := 190) rfl (hb hby at_178) rfl (flt hc178_145).2.2.2 (by decide) (by decide) ?_
      show Steps p.tables e below (T135.setTop (mkF m 190 #[.val (.int p1), .val (.int p2), .val (.int p3), .val (.int p4), .val (.int p5), .val (.int (2 : Int32)), .val (.int ev0), .val (.int ev1), .val (.int ev2), .val (.int ev3), .val (.ref a93), .val (.ref r107), .val (.ref r112), .unset] [])) _
      refine XS.aload X135.here hx rfl (hb hby at_190) rfl rfl ?_
      show Steps p.tables e below (T135.setTop (mkF m 192 #[.val (.int p1), .val (.int p2), .val (.int p3), .val (.int p4), .val (.int p5), .val (.int (2 : Int32)), .val (.int ev0), .val (.int ev1), .val (.int ev2), .val (.int ev3), .val (.ref a93), .val (.ref r107), .val (.ref r112), .unset] [(.ref r107)])) _
      refine st146.trans ?_
      show Steps p.tables e below (T146.setTop (mkF m 195 #[.val (.int p1), .val (.int p2), .val (.int p3), .val (.int p4), .val (.int p5), .val (.int (2 : Int32)), .val (.int ev0), .val (.int ev1), .val (.int ev2), .val (.int ev3), .val (.ref a93), .val (.ref r107), .val (.ref r112), .unset] [(.ref r146)])) _
      refine XS.astore X146.here hx rfl (hb hby at_195) rfl rfl (l' := #[.val (.int p1), .val (.int p2), .val (.int p3), .val (.int p4), .val (.int p5), .val (.int (2 : Int32)), .val (.int ev0), .val (.int ev1), .val (.int ev2), .val (.int ev3), .val (.ref a93), .val (.ref r107), .val (.ref r112), .val (.ref r146)]) rfl ?_
      show Steps p.tables e below (T146.setTop (mkF m 197 #[.val (.int p1), .val (.int p2), .val (.int p3), .val (.int p4), .val (.int p5), .val (.int (2 : Int32)), .val (.int ev0), .val (.int ev1), .val (.int ev2), .val (.int ev3), .val (.ref a93), .val (.ref r107), .val (.ref r112), .val (.ref r146)] [])) _
      refine XS.aload X146.here hx rfl (hb hby at_197) rfl rfl ?_
      show Steps p.tables e below (T146.setTop (mkF m 199 #[.val (.int p1), .val (.int p2), .val (.int p3), .val (.int p4), .val (.int p5), .val (.int (2 : Int32)), .val (.int ev0), .val (.int ev1), .val (.int ev2), .val (.int ev3), .val (.ref a93), .val (.ref r107), .val (.ref r112), .val (.ref r146)] [(.ref r146)])) _
      refine XS.iload X146.here hx rfl (hb hby at_199) rfl ?_
      show Steps p.tables e below (T146.setTop (mkF m 201 #[.val (.int p1), .val (.int p2), .val (.int p3), .val (.int p4), .val (.int p5), .val (.int (2 : Int32)), .val (.int ev0), .val (.int ev1), .val (.int ev2), .val (.int ev3), .val (.ref a93), .val (.ref r107), .val (.ref r112), .val (.ref r146)] [(.int (2 : Int32)), (.ref r146)])) _
      refine XS.iload X146.here hx rfl (hb hby at_201) rfl ?_
      show Steps p.tables e below (T146.setTop (mkF m 203 #[.val (.int p1), .val (.int p2), .val (.int p3), .val (.int p4), .val (.int p5), .val (.int (2 : Int32)), .val (.int ev0), .val (.int ev1), .val (.int ev2), .val (.int ev3), .val (.ref a93), .val (.ref r107), .val (.ref r112), .val (.ref r146)] [(.int ev0), (.int (2 : Int32)), (.ref r146)])) _
      refine XS.iload X146.here hx rfl (hb hby at_203) rfl ?_
      show Steps p.tables e below (T146.setTop (mkF m 205 #[.val (.int p1), .val (.int p2), .val (.int p3), .val (.int p4), .val (.int p5), .val (.int (2 : Int32)), .val (.int ev0), .val (.int ev1), .val (.int ev2), .val (.int ev3), .val (.ref a93), .val (.ref r107), .val (.ref r112), .val (.ref r146)] [(.int ev1), (.int ev0), (.int (2 : Int32)), (.ref r146)])) _
      refine XS.iload X146.here hx rfl (hb hby at_205) rfl ?_
      show Steps p.tables e below (T146.setTop (mkF m 207 #[.val (.int p1), .val (.int p2), .val (.int p3), .val (.int p4), .val (.int p5), .val (.int (2 : Int32)), .val (.int ev0), .val (.int ev1), .val (.int ev2), .val (.int ev3), .val (.ref a93), .val (.ref r107), .val (.ref r112), .val (.ref r146)] [(.int ev2), (.int ev1), (.int ev0), (.int (2 : Int32)), (.ref r146)])) _
      refine XS.iload X146.here hx rfl (hb hby at_207) rfl ?_
      show Steps p.tables e below (T146.setTop (mkF m 209 #[.val (.int p1), .val (.int p2), .val (.int p3), .val (.int p4), .val (.int p5), .val (.int (2 : Int32)), .val (.int ev0), .val (.int ev1), .val (.int ev2), .val (.int ev3), .val (.ref a93), .val (.ref r107), .val (.ref r112), .val (.ref r146)] [(.int ev3), (.int ev2), (.int ev1), (.int ev0), (.int (2 : Int32)), (.ref r146)])) _
      refine st156 _ ?_
      show Steps p.tables e below (T156.setTop (mkF m 212 #[.val (.int p1), .val (.int p2), .val (.int p3), .val (.int p4), .val (.int p5), .val (.int (2 : Int32)), .val (.int ev0), .val (.int ev1), .val (.int ev2), .val (.int ev3), .val (.ref a93), .val (.ref r107), .val (.ref r112), .val (.ref r146)] [(.int (own_same_0 (fun i => ([ev0, ev1] : List Int32).getD i 0) (2 : Int32) (2 : Int32) ev0 ev1 ev2 ev3))])) _
      refine XS.ifYes X156.here hx rfl (pc0 := 212) (pc' := 217) rfl (hb hby at_212) rfl ((if0 _ _).trans (feq hc212_157).2) (by decide) (by decide) ?_
      show Steps p.tables e below (T156.setTop (mkF m 217 #[.val (.int p1), .val (.int p2), .val (.int p3), .val (.int p4), .val (.int p5), .val (.int (2 : Int32)), .val (.int ev0), .val (.int ev1), .val (.int ev2), .val (.int ev3), .val (.ref a93), .val (.ref r107), .val (.ref r112), .val (.ref r146)] [])) _
      refine XS.aload X156.here hx rfl (hb hby at_217) rfl rfl ?_
      show Steps p.tables e below (T156.setTop (mkF m 219 #[.val (.int p1), .val (.int p2), .val (.int p3), .val (.int p4), .val (.int p5), .val (.int (2 : Int32)), .val (.int ev0), .val (.int ev1), .val (.int ev2), .val (.int ev3), .val (.ref a93), .val (.ref r107), .val (.ref r112), .val (.ref r146)] [(.ref r107)])) _
      refine st158.trans ?_
      show Steps p.tables e below (T158.setTop (mkF m 222 #[.val (.int p1), .val (.int p2), .val (.int p3), .val (.int p4), .val (.int p5), .val (.int (2 : Int32)), .val (.int ev0), .val (.int ev1), .val (.int ev2), .val (.int ev3), .val (.ref a93), .val (.ref r107), .val (.ref r112), .val (.ref r146)] [(.int (2 : Int32))])) _
      refine XS.iload X158.here hx rfl (hb hby at_222) rfl ?_
      show Steps p.tables e below (T158.setTop (mkF m 224 #[.val (.int p1), .val (.int p2), .val (.int p3), .val (.int p4), .val (.int p5), .val (.int (2 : Int32)), .val (.int ev0), .val (.int ev1), .val (.int ev2), .val (.int ev3), .val (.ref a93), .val (.ref r107), .val (.ref r112), .val (.ref r146)] [(.int (2 : Int32)), (.int (2 : Int32))])) _
      refine XS.icmpNo X158.here hx rfl (hb hby at_224) rfl (teq hc224_159).2 ?_
      show Steps p.tables e below (T158.setTop (mkF m 227 #[.val (.int p1), .val (.int p2), .val (.int p3), .val (.int p4), .val (.int p5), .val (.int (2 : Int32)), .val (.int ev0), .val (.int ev1), .val (.int ev2), .val (.int ev3), .val (.ref a93), .val (.ref r107), .val (.ref r112), .val (.ref r146)] [])) _
      refine XS.iconst X158.here hx rfl (hb hby at_227) ?_
      show Steps p.tables e below (T158.setTop (mkF m 228 #[.val (.int p1), .val (.int p2), .val (.int p3), .val (.int p4), .val (.int p5), .val (.int (2 : Int32)), .val (.int ev0), .val (.int ev1), .val (.int ev2), .val (.int ev3), .val (.ref a93), .val (.ref r107), .val (.ref r112), .val (.ref r146)] [(.int (1 : Int32))])) _
      refine XS.goto X158.here hx rfl (pc0 := 228) (pc' := 232) rfl (hb hby at_228) (by decide) (by decide) ?_
      show Steps p.tables e below (T158.setTop (mkF m 232 #[.val (.int p1), .val (.int p2), .val (.int p3), .val (.int p4), .val (.int p5), .val (.int (2 : Int32)), .val (.int ev0), .val (.int ev1), .val (.int ev2), .val (.int ev3), .val (.ref a93), .val (.ref r107), .val (.ref r112), .val (.ref r146)] [(.int (1 : Int32))])) _
      exact retN X158 hx (t := .boolean) Bd.returns (by simp) (hb hby at_232) hr
    · exact ⟨rfl, N158⟩
  · obtain ⟨T160, h160, k160, X160, e160, E160, A160, B160, st160⟩ := newPE X0 hx hZ (hw _ (List.mem_of_getElem? (i := 1) rfl)) e0 (g := (mkF m 27 #[.val (.int p1), .val (.int p2), .val (.int p3), .val (.int p4), .val (.int p5), .val (.int (3 : Int32)), .val (.int ev0), .val (.int ev1), .val (.int ev2), .val (.int ev3), .unset, .unset, .unset, .unset] [(.int (3 : Int32))])) rfl (hb hby at_27) rfl (by decide) (cap := 3) (by decide) (by decide) (by decide) (by decide) (ad := "[B") (by first | rfl | decide +kernel)
    obtain ⟨a160, ga160⟩ : ∃ z, z = h0.size := ⟨_, rfl⟩
    rw [← ga160] at A160 B160 st160
    have lo160 : n0 ≤ a160 := Nat.le_trans Z0 (Nat.le_of_eq ga160.symm)
    have Z160 : n0 ≤ h160.size := Nat.le_trans Z0 E160.1
    have V161 : Arv Z h160 a160 k160 .byte (3 : Int32) [(.int (0 : Int32)), (.int (0 : Int32)), (.int (0 : Int32))] (.int (0 : Int32)) := (Arv.new A160 (by decide)).pad (pad_rep [] (.int (0 : Int32)) 3)
    have hc33_162 : (0 : Int32) < (3 : Int32) := (by decide)
    obtain ⟨cl163, Ar163, q163, S163, M163, H163, U163⟩ := id V161
    obtain ⟨T164, h164, X164, e164, W164, st164⟩ := stB X160 hx hZ e160 Ar163 (j := (0 : Int32)) (by rw [S163]; decide) (g := (mkF m 41 #[.val (.int p1), .val (.int p2), .val (.int p3), .val (.int p4), .val (.int p5), .val (.int (3 : Int32)), .val (.int ev0), .val (.int ev1), .val (.int ev2), .val (.int ev3), .val (.ref a160), .unset, .unset, .unset] [(.int ev0), (.int (0 : Int32)), (.ref a160)])) rfl rfl (hb hby at_41)
    have N164 := Fr.snoc X164 N0 lo160
    have V165 : Arv Z h164 a160 k160 .byte (3 : Int32) [(.int (nar .byte ev0)), (.int (0 : Int32)), (.int (0 : Int32))] (.int (0 : Int32)) := Arv.set Ar163 q163 S163 M163 H163 U163 (fits_nar_byte _) W164 0 rfl (by show 0 < 3; decide)
    rw [hb96] at V165
    have E166 := B160.wr W164
    have Z164 : n0 ≤ h164.size := by rw [W164.size]; exact Z160
    have hc45_167 : (1 : Int32) < (3 : Int32) := (by decide)
    obtain ⟨cl168, Ar168, q168, S168, M168, H168, U168⟩ := id V165
    obtain ⟨T169, h169, X169, e169, W169, st169⟩ := stB X164 hx hZ e164 Ar168 (j := (1 : Int32)) (by rw [S168]; decide) (g := (mkF m 53 #[.val (.int p1), .val (.int p2), .val (.int p3), .val (.int p4), .val (.int p5), .val (.int (3 : Int32)), .val (.int ev0), .val (.int ev1), .val (.int ev2), .val (.int ev3), .val (.ref a160), .unset, .unset, .unset] [(.int ev1), (.int (1 : Int32)), (.ref a160)])) rfl rfl (hb hby at_53)
    have N169 := Fr.snoc X169 N164 lo160
    have V170 : Arv Z h169 a160 k160 .byte (3 : Int32) [(.int ev0), (.int (nar .byte ev1)), (.int (0 : Int32))] (.int (0 : Int32)) := Arv.set Ar168 q168 S168 M168 H168 U168 (fits_nar_byte _) W169 1 rfl (by show 1 < 3; decide)
    rw [hb97] at V170
    have E171 := E166.wr W169
    have Z169 : n0 ≤ h169.size := by rw [W169.size]; exact Z164
    have hc57_172 : (2 : Int32) < (3 : Int32) := (by decide)
    obtain ⟨cl173, Ar173, q173, S173, M173, H173, U173⟩ := id V170
    obtain ⟨T174, h174, X174, e174, W174, st174⟩ := stB X169 hx hZ e169 Ar173 (j := (2 : Int32)) (by rw [S173]; decide) (g := (mkF m 65 #[.val (.int p1), .val (.int p2), .val (.int p3), .val (.int p4), .val (.int p5), .val (.int (3 : Int32)), .val (.int ev0), .val (.int ev1), .val (.int ev2), .val (.int ev3), .val (.ref a160), .unset, .unset, .unset] [(.int ev2), (.int (2 : Int32)), (.ref a160)])) rfl rfl (hb hby at_65)
    have N174 := Fr.snoc X174 N169 lo160
    have V175 : Arv Z h174 a160 k160 .byte (3 : Int32) [(.int ev0), (.int ev1), (.int (nar .byte ev2))] (.int (0 : Int32)) := Arv.set Ar173 q173 S173 M173 H173 U173 (fits_nar_byte _) W174 2 rfl (by show 2 < 3; decide)
    rw [hb98] at V175
    have E176 := E171.wr W174
    have Z174 : n0 ≤ h174.size := by rw [W174.size]; exact Z169
    have hc69_177 : ¬ ((3 : Int32) < (3 : Int32)) := (by decide)
    obtain ⟨_, _, ⟨T178, uL178, uk178, un178⟩, -, X178, ⟨Lc178, hQ178, ul178, uy178, uz178⟩, st178⟩ := Jvm.LawKit.callS X174 hx (y := (⟨"com/example/cicada/cicada/core/Payload", "of", "([B)Lcom/example/cicada/cicada/core/Payload;"⟩ : MethodName)) hown (mvT hZ (hw _ (List.mem_of_getElem? (i := 2) rfl))) (mvT hZ (hw _ (List.mem_of_getElem? (i := 3) rfl))) (mvT hZ (hw _ (List.mem_of_getElem? (i := 4) rfl))) (mvT hZ (hw _ (List.mem_of_getElem? (i := 5) rfl))) (by decide) (backOf (W := 0) (rm2 l Z a0 hw [] a160 k160 (3 : Int32) [(.int ev0), (.int ev1), (.int ev2)] h174 n0 Z174 V175 E176 (by decide)) hZ (hw _ (List.mem_of_getElem? (i := 5) rfl)) (hw _ (List.mem_of_getElem? (i := 4) rfl)) (by decide) (by decide)) (g := (mkF m 80 #[.val (.int p1), .val (.int p2), .val (.int p3), .val (.int p4), .val (.int p5), .val (.int (3 : Int32)), .val (.int ev0), .val (.int ev1), .val (.int ev2), .val (.int ev3), .val (.ref a160), .unset, .unset, .unset] [(.ref a160)])) rfl (by rw [hml]; rfl) (argsL := [(.ref a160)]) (rest := []) (lenOf pd__28_5bB_29Lcom_2fexample_2fcicada_2fcicada_2fcore_2fPayload_3b rfl) rfl (by show 2 * 0 + _ ≤ _; exact Nat.le_of_eq rfl) (hb hby at_80) (fun _ _ => ⟨rfl, e174, (by decide : 1 + 2 ≤ _), (by decide : 3 + 5 ≤ _)⟩)
    dsimp only [Pt.U, Pt.locs, Pt.cells, Pt.slots] at X178 ul178 uy178 uz178 st178 hQ178
    subst ul178 uy178 uz178
    obtain ⟨r178, s178, rfl, Nq178, K178, ge178, lt178, Er178, Fr178, Es178, Vs178⟩ := hQ178
    have lr178_a160 : a160 < r178 := Nat.lt_of_lt_of_le E176.lt ge178
    have ls178_a160 : a160 < s178 := Nat.lt_trans lr178_a160 lt178
    have E179 := E176.keep K178
    have V180 := V175.keep K178 nin0
    have Z178 : n0 ≤ T178.heap.size := Nat.le_trans Z174 K178.1
    have N178 := Fr.app N174 Nq178
    obtain ⟨cq181, kq181, qa181, qb181, qc181⟩ := isOf hZ rfl Er178
    obtain ⟨_, _, ⟨T181, uL181, uk181, un181⟩, -, X181, ⟨Lc181, hQ181, ul181, uy181, uz181⟩, st181⟩ := X178.virtualBack hx (y := (⟨"com/example/cicada/cicada/core/Payload", "size", "()I"⟩ : MethodName)) (z := (⟨"com/example/cicada/cicada/core/Payload", "size", "()I"⟩ : MethodName)) hown (mvT hZ (hw _ (List.mem_of_getElem? (i := 25) rfl))) (mvT hZ (hw _ (List.mem_of_getElem? (i := 26) rfl))) (notFace_of_selects (args := #[]) (mvT hZ (hw _ (List.mem_of_getElem? (i := 28) rfl)))) (mvT hZ (hw _ (List.mem_of_getElem? (i := 28) rfl))) (mvT hZ (hw _ (List.mem_of_getElem? (i := 27) rfl))) (by decide) (backOf (W := 0) (rm3 l Z a0 hw [] r178 s178 k160 (3 : Int32) [(.int ev0), (.int ev1), (.int ev2)] T178.heap n0 Z178 Fr178 Vs178) hZ (hw _ (List.mem_of_getElem? (i := 29) rfl)) (hw _ (List.mem_of_getElem? (i := 4) rfl)) (by decide) (by decide)) qa181 qc181 (g := (mkF m 94 #[.val (.int p1), .val (.int p2), .val (.int p3), .val (.int p4), .val (.int p5), .val (.int (3 : Int32)), .val (.int ev0), .val (.int ev1), .val (.int ev2), .val (.int ev3), .val (.ref a160), .val (.ref r178), .unset, .unset] [(.ref r178)])) rfl (by rw [hml]; rfl) (Steps.refl _) (argsL := []) (rest := []) (lenOf pd__28_29I rfl) rfl (by show 2 * 0 + _ ≤ _; exact Nat.le_of_eq rfl) (hb hby at_94) (fun _ _ => ⟨rfl, rfl, (by decide : 3 + 0 ≤ _), (by decide : 8 + 0 ≤ _)⟩)
    dsimp only [Pt.U, Pt.locs, Pt.cells, Pt.slots] at X181 ul181 uy181 uz181 st181 hQ181
    subst ul181 uy181 uz181
    obtain ⟨rfl, Nq181, e181⟩ := hQ181
    have N181 := Fr.app N178 Nq181
    have hc99_182 : (3 : Int32) = (3 : Int32) := (by decide)
    obtain ⟨cq183, kq183, qa183, qb183, qc183⟩ := isOf hZ e181 Er178
    obtain ⟨_, _, ⟨T183, uL183, uk183, un183⟩, -, X183, ⟨Lc183, hQ183, ul183, uy183, uz183⟩, st183⟩ := X181.virtualBack hx (y := (⟨"com/example/cicada/cicada/core/Payload", "bytes", "()[B"⟩ : MethodName)) (z := (⟨"com/example/cicada/cicada/core/Payload", "bytes", "()[B"⟩ : MethodName)) hown (mvT hZ (hw _ (List.mem_of_getElem? (i := 30) rfl))) (mvT hZ (hw _ (List.mem_of_getElem? (i := 31) rfl))) (notFace_of_selects (args := #[]) (mvT hZ (hw _ (List.mem_of_getElem? (i := 33) rfl)))) (mvT hZ (hw _ (List.mem_of_getElem? (i := 33) rfl))) (mvT hZ (hw _ (List.mem_of_getElem? (i := 32) rfl))) (by decide) (backOf (W := 0) (rm4 l Z a0 hw [] r178 s178 k160 (3 : Int32) [(.int ev0), (.int ev1), (.int ev2)] T178.heap n0 Z178 Fr178 Vs178 Es178 (by decide)) hZ (hw _ (List.mem_of_getElem? (i := 34) rfl)) (hw _ (List.mem_of_getElem? (i := 4) rfl)) (by decide) (by decide)) qa183 qc183 (g := (mkF m 106 #[.val (.int p1), .val (.int p2), .val (.int p3), .val (.int p4), .val (.int p5), .val (.int (3 : Int32)), .val (.int ev0), .val (.int ev1), .val (.int ev2), .val (.int ev3), .val (.ref a160), .val (.ref r178), .unset, .unset] [(.ref r178)])) rfl (by rw [hml]; rfl) (Steps.refl _) (argsL := []) (rest := []) (lenOf pd__28_29_5bB rfl) rfl (by show 2 * 0 + _ ≤ _; exact Nat.le_of_eq rfl) (hb hby at_106) (fun _ _ => ⟨rfl, e181, (by decide : 3 + 1 ≤ _), (by decide : 8 + 4 ≤ _)⟩)
    dsimp only [Pt.U, Pt.locs, Pt.cells, Pt.slots] at X183 ul183 uy183 uz183 st183 hQ183
    subst ul183 uy183 uz183
    obtain ⟨r183, rfl, Nq183, K183, ge183, Er183, Vr183⟩ := hQ183
    have lr183_a160 : a160 < r183 := Nat.lt_of_lt_of_le E179.lt ge183
    have lr183_r178 : r178 < r183 := Nat.lt_of_lt_of_le Er178.lt ge183
    have lr183_s178 : s178 < r183 := Nat.lt_of_lt_of_le Es178.lt ge183
    have E184 := E179.keep K183
    have V185 := V180.keep K183 nin0
    have E186 := Er178.keep K183
    have E187 := Es178.keep K183
    have F188 := Fr178.keep K183 nin0
    have V189 := Vs178.keep K183 nin0
    have Z183 : n0 ≤ T183.heap.size := Nat.le_trans Z178 K183.1
    have N183 := Fr.app N181 Nq183
    obtain ⟨cl190, Ar190, q190, S190, M190, H190, U190⟩ := id Vr183
    obtain ⟨_, _, ⟨T191, uL191, uk191, un191⟩, -, X191, ⟨Lc191, hQ191, ul191, uy191, uz191⟩, st191⟩ := Jvm.LawKit.callS X183 hx (y := (⟨"com/example/cicada/cicada/core/PayloadOfPinLaw", "same", "([BIBBBB)Z"⟩ : MethodName)) hown (mvT hZ (hw _ (List.mem_of_getElem? (i := 35) rfl))) (mvT hZ (hw _ (List.mem_of_getElem? (i := 36) rfl))) (mvT hZ (hw _ (List.mem_of_getElem? (i := 37) rfl))) (mvT hZ (hw _ (List.mem_of_getElem? (i := 38) rfl))) (by decide) (backOf (W := 0) (rm5 l Z a0 hw [] r183 cl190 (fun i => ([ev0, ev1, ev2] : List Int32).getD i 0) (3 : Int32) (3 : Int32) ev0 ev1 ev2 ev3 T183.heap n0 Z183 Ar190 S190 M190 (own_has (xs := ([ev0, ev1, ev2] : List Int32)) H190 S190)) hZ (hw _ (List.mem_of_getElem? (i := 38) rfl)) (hw _ (List.mem_of_getElem? (i := 37) rfl)) (by decide) (by decide)) (g := (mkF m 123 #[.val (.int p1), .val (.int p2), .val (.int p3), .val (.int p4), .val (.int p5), .val (.int (3 : Int32)), .val (.int ev0), .val (.int ev1), .val (.int ev2), .val (.int ev3), .val (.ref a160), .val (.ref r178), .val (.ref r183), .unset] [(.int ev3), (.int ev2), (.int ev1), (.int ev0), (.int (3 : Int32)), (.ref r183)])) rfl (by rw [hml]; rfl) (argsL := [(.ref r183), (.int (3 : Int32)), (.int ev0), (.int ev1), (.int ev2), (.int ev3)]) (rest := []) (lenOf pd__28_5bBIBBBB_29Z rfl) rfl (by show 2 * 0 + _ ≤ _; exact Nat.le_of_eq rfl) (hb hby at_123) (fun _ _ => ⟨rfl, rfl, (by decide : 4 + 0 ≤ _), (by decide : 12 + 0 ≤ _)⟩)
    dsimp only [Pt.U, Pt.locs, Pt.cells, Pt.slots] at X191 ul191 uy191 uz191 st191 hQ191
    subst ul191 uy191 uz191
    obtain ⟨rfl, Nq191, e191⟩ := hQ191
    have N191 := Fr.app N183 Nq191
    have hc126_192 : ¬ ((own_same_0 (fun i => ([ev0, ev1, ev2] : List Int32).getD i 0) (3 : Int32) (3 : Int32) ev0 ev1 ev2 ev3) = (0 : Int32)) := by simp [own_same_0, own_same_27, own_same_41, own_same_56]
    have hc133_193 : (0 : Int32) < (3 : Int32) := (by decide)
    obtain ⟨cl194, Ar194, q194, S194, M194, H194, U194⟩ := id V185
    obtain ⟨T195, h195, X195, e195, W195, st195⟩ := stB X191 hx hZ e191 Ar194 (j := (0 : Int32)) (by rw [S194]; decide) (g := (mkF m 144 #[.val (.int p1), .val (.int p2), .val (.int p3), .val (.int p4), .val (.int p5), .val (.int (3 : Int32)), .val (.int ev0), .val (.int ev1), .val (.int ev2), .val (.int ev3), .val (.ref a160), .val (.ref r178), .val (.ref r183), .unset] [(.int ((ev0 ^^^ (-1 : Int32)).toInt8.toInt32)), (.int (0 : Int32)), (.ref a160)])) rfl rfl (hb hby at_144)
    have N195 := Fr.snoc X195 N191 lo160
    have V196 : Arv Z h195 a160 k160 .byte (3 : Int32) [(.int (nar .byte ((ev0 ^^^ (-1 : Int32)).toInt8.toInt32))), (.int ev1), (.int ev2)] (.int (0 : Int32)) := Arv.set Ar194 q194 S194 M194 H194 U194 (fits_nar_byte _) W195 0 rfl (by show 0 < 3; decide)
    have E197 := E184.wr W195
    have E198 := E186.wr W195
    have E199 := E187.wr W195
    have F200 := F188.other W195 (Or.inl (Nat.ne_of_gt lr178_a160))
    have V201 := V189.other W195 (Nat.ne_of_gt ls178_a160)
    have E202 := Er183.wr W195
    have V203 := Vr183.other W195 (Nat.ne_of_gt lr183_a160)
    have Z195 : n0 ≤ h195.size := by rw [W195.size]; exact Z183
    have hc148_204 : (1 : Int32) < (3 : Int32) := (by decide)
    obtain ⟨cl205, Ar205, q205, S205, M205, H205, U205⟩ := id V196
    obtain ⟨T206, h206, X206, e206, W206, st206⟩ := stB X195 hx hZ e195 Ar205 (j := (1 : Int32)) (by rw [S205]; decide) (g := (mkF m 159 #[.val (.int p1), .val (.int p2), .val (.int p3), .val (.int p4), .val (.int p5), .val (.int (3 : Int32)), .val (.int ev0), .val (.int ev1), .val (.int ev2), .val (.int ev3), .val (.ref a160), .val (.ref r178), .val (.ref r183), .unset] [(.int ((ev1 ^^^ (-1 : Int32)).toInt8.toInt32)), (.int (1 : Int32)), (.ref a160)])) rfl rfl (hb hby at_159)
    have N206 := Fr.snoc X206 N195 lo160
    have V207 : Arv Z h206 a160 k160 .byte (3 : Int32) [(.int (nar .byte ((ev0 ^^^ (-1 : Int32)).toInt8.toInt32))), (.int (nar .byte ((ev1 ^^^ (-1 : Int32)).toInt8.toInt32))), (.int ev2)] (.int (0 : Int32)) := Arv.set Ar205 q205 S205 M205 H205 U205 (fits_nar_byte _) W206 1 rfl (by show 1 < 3; decide)
    have E208 := E197.wr W206
    have E209 := E198.wr W206
    have E210 := E199.wr W206
    have F211 := F200.other W206 (Or.inl (Nat.ne_of_gt lr178_a160))
    have V212 := V201.other W206 (Nat.ne_of_gt ls178_a160)
    have E213 := E202.wr W206
    have V214 := V203.other W206 (Nat.ne_of_gt lr183_a160)
    have Z206 : n0 ≤ h206.size := by rw [W206.size]; exact Z195
    have hc163_215 : (2 : Int32) < (3 : Int32) := (by decide)
    obtain ⟨cl216, Ar216, q216, S216, M216, H216, U216⟩ := id V207
    obtain ⟨T217, h217, X217, e217, W217, st217⟩ := stB X206 hx hZ e206 Ar216 (j := (2 : Int32)) (by rw [S216]; decide) (g := (mkF m 174 #[.val (.int p1), .val (.int p2), .val (.int p3), .val (.int p4), .val (.int p5), .val (.int (3 : Int32)), .val (.int ev0), .val (.int ev1), .val (.int ev2), .val (.int ev3), .val (.ref a160), .val (.ref r178), .val (.ref r183), .unset] [(.int ((ev2 ^^^ (-1 : Int32)).toInt8.toInt32)), (.int (2 : Int32)), (.ref a160)])) rfl rfl (hb hby at_174)
    have N217 := Fr.snoc X217 N206 lo160
    have V218 : Arv Z h217 a160 k160 .byte (3 : Int32) [(.int (nar .byte ((ev0 ^^^ (-1 : Int32)).toInt8.toInt32))), (.int (nar .byte ((ev1 ^^^ (-1 : Int32)).toInt8.toInt32))), (.int (nar .byte ((ev2 ^^^ (-1 : Int32)).toInt8.toInt32)))] (.int (0 : Int32)) := Arv.set Ar216 q216 S216 M216 H216 U216 (fits_nar_byte _) W217 2 rfl (by show 2 < 3; decide)
    have E219 := E208.wr W217
    have E220 := E209.wr W217
    have E221 := E210.wr W217
    have F222 := F211.other W217 (Or.inl (Nat.ne_of_gt lr178_a160))
    have V223 := V212.other W217 (Nat.ne_of_gt ls178_a160)
    have E224 := E213.wr W217
    have V225 := V214.other W217 (Nat.ne_of_gt lr183_a160)
    have Z217 : n0 ≤ h217.size := by rw [W217.size]; exact Z206
    have hc178_226 : ¬ ((3 : Int32) < (3 : Int32)) := (by decide)
    obtain ⟨cq227, kq227, qa227, qb227, qc227⟩ := isOf hZ e217 E220
    obtain ⟨_, _, ⟨T227, uL227, uk227, un227⟩, -, X227, ⟨Lc227, hQ227, ul227, uy227, uz227⟩, st227⟩ := X217.virtualBack hx (y := (⟨"com/example/cicada/cicada/core/Payload", "bytes", "()[B"⟩ : MethodName)) (z := (⟨"com/example/cicada/cicada/core/Payload", "bytes", "()[B"⟩ : MethodName)) hown (mvT hZ (hw _ (List.mem_of_getElem? (i := 30) rfl))) (mvT hZ (hw _ (List.mem_of_getElem? (i := 31) rfl))) (notFace_of_selects (args := #[]) (mvT hZ (hw _ (List.mem_of_getElem? (i := 33) rfl)))) (mvT hZ (hw _ (List.mem_of_getElem? (i := 33) rfl))) (mvT hZ (hw _ (List.mem_of_getElem? (i := 32) rfl))) (by decide) (backOf (W := 0) (rm4 l Z a0 hw [] r178 s178 k160 (3 : Int32) [(.int ev0), (.int ev1), (.int ev2)] h217 n0 Z217 F222 V223 E221 (by decide)) hZ (hw _ (List.mem_of_getElem? (i := 34) rfl)) (hw _ (List.mem_of_getElem? (i := 4) rfl)) (by decide) (by decide)) qa227 qc227 (g := (mkF m 192 #[.val (.int p1), .val (.int p2), .val (.int p3), .val (.int p4), .val (.int p5), .val (.int (3 : Int32)), .val (.int ev0), .val (.int ev1), .val (.int ev2), .val (.int ev3), .val (.ref a160), .val (.ref r178), .val (.ref r183), .unset] [(.ref r178)])) rfl (by rw [hml]; rfl) (Steps.refl _) (argsL := []) (rest := []) (lenOf pd__28_29_5bB rfl) rfl (by show 2 * 0 + _ ≤ _; exact Nat.le_of_eq rfl) (hb hby at_192) (fun _ _ => ⟨rfl, e217, (by decide : 4 + 1 ≤ _), (by decide : 12 + 4 ≤ _)⟩)
    dsimp only [Pt.U, Pt.locs, Pt.cells, Pt.slots] at X227 ul227 uy227 uz227 st227 hQ227
    subst ul227 uy227 uz227
    obtain ⟨r227, rfl, Nq227, K227, ge227, Er227, Vr227⟩ := hQ227
    have lr227_a160 : a160 < r227 := Nat.lt_of_lt_of_le E219.lt ge227
    have lr227_r178 : r178 < r227 := Nat.lt_of_lt_of_le E220.lt ge227
    have lr227_s178 : s178 < r227 := Nat.lt_of_lt_of_le E221.lt ge227
    have lr227_r183 : r183 < r227 := Nat.lt_of_lt_of_le E224.lt ge227
    have E228 := E219.keep K227
    have V229 := V218.keep K227 nin0
    have E230 := E220.keep K227
    have E231 := E221.keep K227
    have F232 := F222.keep K227 nin0
    have V233 := V223.keep K227 nin0
    have E234 := E224.keep K227
    have V235 := V225.keep K227 nin0
    have Z227 : n0 ≤ T227.heap.size := Nat.le_trans Z217 K227.1
    have N227 := Fr.app N217 Nq227
    obtain ⟨cl236, Ar236, q236, S236, M236, H236, U236⟩ := id Vr227
    obtain ⟨_, _, ⟨T237, uL237, uk237, un237⟩, -, X237, ⟨Lc237, hQ237, ul237, uy237, uz237⟩, st237⟩ := Jvm.LawKit.callS X227 hx (y := (⟨"com/example/cicada/cicada/core/PayloadOfPinLaw", "same", "([BIBBBB)Z"⟩ : MethodName)) hown (mvT hZ (hw _ (List.mem_of_getElem? (i := 35) rfl))) (mvT hZ (hw _ (List.mem_of_getElem? (i := 36) rfl))) (mvT hZ (hw _ (List.mem_of_getElem? (i := 37) rfl))) (mvT hZ (hw _ (List.mem_of_getElem? (i := 38) rfl))) (by decide) (backOf (W := 0) (rm5 l Z a0 hw [] r227 cl236 (fun i => ([ev0, ev1, ev2] : List Int32).getD i 0) (3 : Int32) (3 : Int32) ev0 ev1 ev2 ev3 T227.heap n0 Z227 Ar236 S236 M236 (own_has (xs := ([ev0, ev1, ev2] : List Int32)) H236 S236)) hZ (hw _ (List.mem_of_getElem? (i := 38) rfl)) (hw _ (List.mem_of_getElem? (i := 37) rfl)) (by decide) (by decide)) (g := (mkF m 209 #[.val (.int p1), .val (.int p2), .val (.int p3), .val (.int p4), .val (.int p5), .val (.int (3 : Int32)), .val (.int ev0), .val (.int ev1), .val (.int ev2), .val (.int ev3), .val (.ref a160), .val (.ref r178), .val (.ref r183), .val (.ref r227)] [(.int ev3), (.int ev2), (.int ev1), (.int ev0), (.int (3 : Int32)), (.ref r227)])) rfl (by rw [hml]; rfl) (argsL := [(.ref r227), (.int (3 : Int32)), (.int ev0), (.int ev1), (.int ev2), (.int ev3)]) (rest := []) (lenOf pd__28_5bBIBBBB_29Z rfl) rfl (by show 2 * 0 + _ ≤ _; exact Nat.le_of_eq rfl) (hb hby at_209) (fun _ _ => ⟨rfl, rfl, (by decide : 5 + 0 ≤ _), (by decide : 16 + 0 ≤ _)⟩)
    dsimp only [Pt.U, Pt.locs, Pt.cells, Pt.slots] at X237 ul237 uy237 uz237 st237 hQ237
    subst ul237 uy237 uz237
    obtain ⟨rfl, Nq237, e237⟩ := hQ237
    have N237 := Fr.app N227 Nq237
    have hc212_238 : ¬ ((own_same_0 (fun i => ([ev0, ev1, ev2] : List Int32).getD i 0) (3 : Int32) (3 : Int32) ev0 ev1 ev2 ev3) = (0 : Int32)) := by simp [own_same_0, own_same_27, own_same_41, own_same_56]
    obtain ⟨cq239, kq239, qa239, qb239, qc239⟩ := isOf hZ e237 E230
    obtain ⟨_, _, ⟨T239, uL239, uk239, un239⟩, -, X239, ⟨Lc239, hQ239, ul239, uy239, uz239⟩, st239⟩ := X237.virtualBack hx (y := (⟨"com/example/cicada/cicada/core/Payload", "size", "()I"⟩ : MethodName)) (z := (⟨"com/example/cicada/cicada/core/Payload", "size", "()I"⟩ : MethodName)) hown (mvT hZ (hw _ (List.mem_of_getElem? (i := 25) rfl))) (mvT hZ (hw _ (List.mem_of_getElem? (i := 26) rfl))) (notFace_of_selects (args := #[]) (mvT hZ (hw _ (List.mem_of_getElem? (i := 28) rfl)))) (mvT hZ (hw _ (List.mem_of_getElem? (i := 28) rfl))) (mvT hZ (hw _ (List.mem_of_getElem? (i := 27) rfl))) (by decide) (backOf (W := 0) (rm3 l Z a0 hw [] r178 s178 k160 (3 : Int32) [(.int ev0), (.int ev1), (.int ev2)] T227.heap n0 Z227 F232 V233) hZ (hw _ (List.mem_of_getElem? (i := 29) rfl)) (hw _ (List.mem_of_getElem? (i := 4) rfl)) (by decide) (by decide)) qa239 qc239 (g := (mkF m 219 #[.val (.int p1), .val (.int p2), .val (.int p3), .val (.int p4), .val (.int p5), .val (.int (3 : Int32)), .val (.int ev0), .val (.int ev1), .val (.int ev2), .val (.int ev3), .val (.ref a160), .val (.ref r178), .val (.ref r183), .val (.ref r227)] [(.ref r178)])) rfl (by rw [hml]; rfl) (Steps.refl _) (argsL := []) (rest := []) (lenOf pd__28_29I rfl) rfl (by show 2 * 0 + _ ≤ _; exact Nat.le_of_eq rfl) (hb hby at_219) (fun _ _ => ⟨rfl, e237, (by decide : 5 + 0 ≤ _), (by decide : 16 + 0 ≤ _)⟩)
    dsimp only [Pt.U, Pt.locs, Pt.cells, Pt.slots] at X239 ul239 uy239 uz239 st239 hQ239
    subst ul239 uy239 uz239
    obtain ⟨rfl, Nq239, e239⟩ := hQ239
    have N239 := Fr.app N237 Nq239
    have hc224_240 : (3 : Int32) = (3 : Int32) := (by decide)
    refine own_end X239 Bd.notSynchronized (v := some (.int (1 : Int32))) (fun h => by rw [Bd.returns] at h; cases h) (fun fs hr => ?_) e239 ?_ (by decide) (by decide)
    · show Steps p.tables e below (s₁.setTop (mkF m 25 #[.val (.int p1), .val (.int p2), .val (.int p3), .val (.int p4), .val (.int p5), .val (.int (3 : Int32)), .val (.int ev0), .val (.int ev1), .val (.int ev2), .val (.int ev3), .unset, .unset, .unset, .unset] [])) _
      refine XS.iload X0.here hx rfl (hb hby at_25) rfl ?_
      show Steps p.tables e below (s₁.setTop (mkF m 27 #[.val (.int p1), .val (.int p2), .val (.int p3), .val (.int p4), .val (.int p5), .val (.int (3 : Int32)), .val (.int ev0), .val (.int ev1), .val (.int ev2), .val (.int ev3), .unset, .unset, .unset, .unset] [(.int (3 : Int32))])) _
      refine st160 _ ?_
      show Steps p.tables e below (T160.setTop (mkF m 29 #[.val (.int p1), .val (.int p2), .val (.int p3), .val (.int p4), .val (.int p5), .val (.int (3 : Int32)), .val (.int ev0), .val (.int ev1), .val (.int ev2), .val (.int ev3), .unset, .unset, .unset, .unset] [(.ref a160)])) _
      refine XS.astore X160.here hx rfl (hb hby at_29) rfl rfl (l' := #[.val (.int p1), .val (.int p2), .val (.int p3), .val (.int p4), .val (.int p5), .val (.int (3 : Int32)), .val (.int ev0), .val (.int ev1), .val (.int ev2), .val (.int ev3), .val (.ref a160), .unset, .unset, .unset]) rfl ?_
      show Steps p.tables e below (T160.setTop (mkF m 31 #[.val (.int p1), .val (.int p2), .val (.int p3), .val (.int p4), .val (.int p5), .val (.int (3 : Int32)), .val (.int ev0), .val (.int ev1), .val (.int ev2), .val (.int ev3), .val (.ref a160), .unset, .unset, .unset] [])) _
      refine XS.iload X160.here hx rfl (hb hby at_31) rfl ?_
      show Steps p.tables e below (T160.setTop (mkF m 33 #[.val (.int p1), .val (.int p2), .val (.int p3), .val (.int p4), .val (.int p5), .val (.int (3 : Int32)), .val (.int ev0), .val (.int ev1), .val (.int ev2), .val (.int ev3), .val (.ref a160), .unset, .unset, .unset] [(.int (3 : Int32))])) _
      refine XS.ifNo X160.here hx rfl (hb hby at_33) rfl ((if0 _ _).trans (tlt hc33_162).2.2.2) ?_
      show Steps p.tables e below (T160.setTop (mkF m 36 #[.val (.int p1), .val (.int p2), .val (.int p3), .val (.int p4), .val (.int p5), .val (.int (3 : Int32)), .val (.int ev0), .val (.int ev1), .val (.int ev2), .val (.int ev3), .val (.ref a160), .unset, .unset, .unset] [])) _
      refine XS.aload X160.here hx rfl (hb hby at_36) rfl rfl ?_
      show Steps p.tables e below (T160.setTop (mkF m 38 #[.val (.int p1), .val (.int p2), .val (.int p3), .val (.int p4), .val (.int p5), .val (.int (3 : Int32)), .val (.int ev0), .val (.int ev1), .val (.int ev2), .val (.int ev3), .val (.ref a160), .unset, .unset, .unset] [(.ref a160)])) _
      refine XS.iconst X160.here hx rfl (hb hby at_38) ?_
      show Steps p.tables e below (T160.setTop (mkF m 39 #[.val (.int p1), .val (.int p2), .val (.int p3), .val (.int p4), .val (.int p5), .val (.int (3 : Int32)), .val (.int ev0), .val (.int ev1), .val (.int ev2), .val (.int ev3), .val (.ref a160), .unset, .unset, .unset] [(.int (0 : Int32)), (.ref a160)])) _
      refine XS.iload X160.here hx rfl (hb hby at_39) rfl ?_
      show Steps p.tables e below (T160.setTop (mkF m 41 #[.val (.int p1), .val (.int p2), .val (.int p3), .val (.int p4), .val (.int p5), .val (.int (3 : Int32)), .val (.int ev0), .val (.int ev1), .val (.int ev2), .val (.int ev3), .val (.ref a160), .unset, .unset, .unset] [(.int ev0), (.int (0 : Int32)), (.ref a160)])) _
      refine st164 _ ?_
      show Steps p.tables e below (T164.setTop (mkF m 42 #[.val (.int p1), .val (.int p2), .val (.int p3), .val (.int p4), .val (.int p5), .val (.int (3 : Int32)), .val (.int ev0), .val (.int ev1), .val (.int ev2), .val (.int ev3), .val (.ref a160), .unset, .unset, .unset] [])) _
      refine XS.iload X164.here hx rfl (hb hby at_42) rfl ?_
      show Steps p.tables e below (T164.setTop (mkF m 44 #[.val (.int p1), .val (.int p2), .val (.int p3), .val (.int p4), .val (.int p5), .val (.int (3 : Int32)), .val (.int ev0), .val (.int ev1), .val (.int ev2), .val (.int ev3), .val (.ref a160), .unset, .unset, .unset] [(.int (3 : Int32))])) _
      refine XS.iconst X164.here hx rfl (hb hby at_44) ?_
      show Steps p.tables e below (T164.setTop (mkF m 45 #[.val (.int p1), .val (.int p2), .val (.int p3), .val (.int p4), .val (.int p5), .val (.int (3 : Int32)), .val (.int ev0), .val (.int ev1), .val (.int ev2), .val (.int ev3), .val (.ref a160), .unset, .unset, .unset] [(.int (1 : Int32)), (.int (3 : Int32))])) _
      refine XS.icmpNo X164.here hx rfl (hb hby at_45) rfl (tlt hc45_167).2.2.2 ?_
      show Steps p.tables e below (T164.setTop (mkF m 48 #[.val (.int p1), .val (.int p2), .val (.int p3), .val (.int p4), .val (.int p5), .val (.int (3 : Int32)), .val (.int ev0), .val (.int ev1), .val (.int ev2), .val (.int ev3), .val (.ref a160), .unset, .unset, .unset] [])) _
      refine XS.aload X164.here hx rfl (hb hby at_48) rfl rfl ?_
      show Steps p.tables e below (T164.setTop (mkF m 50 #[.val (.int p1), .val (.int p2), .val (.int p3), .val (.int p4), .val (.int p5), .val (.int (3 : Int32)), .val (.int ev0), .val (.int ev1), .val (.int ev2), .val (.int ev3), .val (.ref a160), .unset, .unset, .unset] [(.ref a160)])) _
      refine XS.iconst X164.here hx rfl (hb hby at_50) ?_
      show Steps p.tables e below (T164.setTop (mkF m 51 #[.val (.int p1), .val (.int p2), .val (.int p3), .val (.int p4), .val (.int p5), .val (.int (3 : Int32)), .val (.int ev0), .val (.int ev1), .val (.int ev2), .val (.int ev3), .val (.ref a160), .unset, .unset, .unset] [(.int (1 : Int32)), (.ref a160)])) _
      refine XS.iload X164.here hx rfl (hb hby at_51) rfl ?_
      show Steps p.tables e below (T164.setTop (mkF m 53 #[.val (.int p1), .val (.int p2), .val (.int p3), .val (.int p4), .val (.int p5), .val (.int (3 : Int32)), .val (.int ev0), .val (.int ev1), .val (.int ev2), .val (.int ev3), .val (.ref a160), .unset, .unset, .unset] [(.int ev1), (.int (1 : Int32)), (.ref a160)])) _
      refine st169 _ ?_
      show Steps p.tables e below (T169.setTop (mkF m 54 #[.val (.int p1), .val (.int p2), .val (.int p3), .val (.int p4), .val (.int p5), .val (.int (3 : Int32)), .val (.int ev0), .val (.int ev1), .val (.int ev2), .val (.int ev3), .val (.ref a160), .unset, .unset, .unset] [])) _
      refine XS.iload X169.here hx rfl (hb hby at_54) rfl ?_
      show Steps p.tables e below (T169.setTop (mkF m 56 #[.val (.int p1), .val (.int p2), .val (.int p3), .val (.int p4), .val (.int p5), .val (.int (3 : Int32)), .val (.int ev0), .val (.int ev1), .val (.int ev2), .val (.int ev3), .val (.ref a160), .unset, .unset, .unset] [(.int (3 : Int32))])) _
      refine XS.iconst X169.here hx rfl (hb hby at_56) ?_
      show Steps p.tables e below (T169.setTop (mkF m 57 #[.val (.int p1), .val (.int p2), .val (.int p3), .val (.int p4), .val (.int p5), .val (.int (3 : Int32)), .val (.int ev0), .val (.int ev1), .val (.int ev2), .val (.int ev3), .val (.ref a160), .unset, .unset, .unset] [(.int (2 : Int32)), (.int (3 : Int32))])) _
      refine XS.icmpNo X169.here hx rfl (hb hby at_57) rfl (tlt hc57_172).2.2.2 ?_
      show Steps p.tables e below (T169.setTop (mkF m 60 #[.val (.int p1), .val (.int p2), .val (.int p3), .val (.int p4), .val (.int p5), .val (.int (3 : Int32)), .val (.int ev0), .val (.int ev1), .val (.int ev2), .val (.int ev3), .val (.ref a160), .unset, .unset, .unset] [])) _
      refine XS.aload X169.here hx rfl (hb hby at_60) rfl rfl ?_
      show Steps p.tables e below (T169.setTop (mkF m 62 #[.val (.int p1), .val (.int p2), .val (.int p3), .val (.int p4), .val (.int p5), .val (.int (3 : Int32)), .val (.int ev0), .val (.int ev1), .val (.int ev2), .val (.int ev3), .val (.ref a160), .unset, .unset, .unset] [(.ref a160)])) _
      refine XS.iconst X169.here hx rfl (hb hby at_62) ?_
      show Steps p.tables e below (T169.setTop (mkF m 63 #[.val (.int p1), .val (.int p2), .val (.int p3), .val (.int p4), .val (.int p5), .val (.int (3 : Int32)), .val (.int ev0), .val (.int ev1), .val (.int ev2), .val (.int ev3), .val (.ref a160), .unset, .unset, .unset] [(.int (2 : Int32)), (.ref a160)])) _
      refine XS.iload X169.here hx rfl (hb hby at_63) rfl ?_
      show Steps p.tables e below (T169.setTop (mkF m 65 #[.val (.int p1), .val (.int p2), .val (.int p3), .val (.int p4), .val (.int p5), .val (.int (3 : Int32)), .val (.int ev0), .val (.int ev1), .val (.int ev2), .val (.int ev3), .val (.ref a160), .unset, .unset, .unset] [(.int ev2), (.int (2 : Int32)), (.ref a160)])) _
      refine st174 _ ?_
      show Steps p.tables e below (T174.setTop (mkF m 66 #[.val (.int p1), .val (.int p2), .val (.int p3), .val (.int p4), .val (.int p5), .val (.int (3 : Int32)), .val (.int ev0), .val (.int ev1), .val (.int ev2), .val (.int ev3), .val (.ref a160), .unset, .unset, .unset] [])) _
      refine XS.iload X174.here hx rfl (hb hby at_66) rfl ?_
      show Steps p.tables e below (T174.setTop (mkF m 68 #[.val (.int p1), .val (.int p2), .val (.int p3), .val (.int p4), .val (.int p5), .val (.int (3 : Int32)), .val (.int ev0), .val (.int ev1), .val (.int ev2), .val (.int ev3), .val (.ref a160), .unset, .unset, .unset] [(.int (3 : Int32))])) _
      refine XS.iconst X174.here hx rfl (hb hby at_68) ?_
      show Steps p.tables e below (T174.setTop (mkF m 69 #[.val (.int p1), .val (.int p2), .val (.int p3), .val (.int p4), .val (.int p5), .val (.int (3 : Int32)), .val (.int ev0), .val (.int ev1), .val (.int ev2), .val (.int ev3), .val (.ref a160), .unset, .unset, .unset] [(.int (3 : Int32)), (.int (3 : Int32))])) _
      refine XS.icmpYes X174.here hx rfl (pc0 := 69) (pc' := 78) rfl (hb hby at_69) rfl (flt hc69_177).2.2.2 (by decide) (by decide) ?_
      show Steps p.tables e below (T174.setTop (mkF m 78 #[.val (.int p1), .val (.int p2), .val (.int p3), .val (.int p4), .val (.int p5), .val (.int (3 : Int32)), .val (.int ev0), .val (.int ev1), .val (.int ev2), .val (.int ev3), .val (.ref a160), .unset, .unset, .unset] [])) _
      refine XS.aload X174.here hx rfl (hb hby at_78) rfl rfl ?_
      show Steps p.tables e below (T174.setTop (mkF m 80 #[.val (.int p1), .val (.int p2), .val (.int p3), .val (.int p4), .val (.int p5), .val (.int (3 : Int32)), .val (.int ev0), .val (.int ev1), .val (.int ev2), .val (.int ev3), .val (.ref a160), .unset, .unset, .unset] [(.ref a160)])) _
      refine st178 _ ?_
      show Steps p.tables e below (T178.setTop (mkF m 83 #[.val (.int p1), .val (.int p2), .val (.int p3), .val (.int p4), .val (.int p5), .val (.int (3 : Int32)), .val (.int ev0), .val (.int ev1), .val (.int ev2), .val (.int ev3), .val (.ref a160), .unset, .unset, .unset] [(.ref r178)])) _
      refine XS.astore X178.here hx rfl (hb hby at_83) rfl rfl (l' := #[.val (.int p1), .val (.int p2), .val (.int p3), .val (.int p4), .val (.int p5), .val (.int (3 : Int32)), .val (.int ev0), .val (.int ev1), .val (.int ev2), .val (.int ev3), .val (.ref a160), .val (.ref r178), .unset, .unset]) rfl ?_
      show Steps p.tables e below (T178.setTop (mkF m 85 #[.val (.int p1), .val (.int p2), .val (.int p3), .val (.int p4), .val (.int p5), .val (.int (3 : Int32)), .val (.int ev0), .val (.int ev1), .val (.int ev2), .val (.int ev3), .val (.ref a160), .val (.ref r178), .unset, .unset] [])) _
      refine XS.aload X178.here hx rfl (hb hby at_85) rfl rfl ?_
      show Steps p.tables e below (T178.setTop (mkF m 87 #[.val (.int p1), .val (.int p2), .val (.int p3), .val (.int p4), .val (.int p5), .val (.int (3 : Int32)), .val (.int ev0), .val (.int ev1), .val (.int ev2), .val (.int ev3), .val (.ref a160), .val (.ref r178), .unset, .unset] [(.ref r178)])) _
      refine XS.ifnonnullYes X178.here hx rfl (pc0 := 87) (pc' := 92) rfl (hb hby at_87) rfl (by decide) (by decide) ?_
      show Steps p.tables e below (T178.setTop (mkF m 92 #[.val (.int p1), .val (.int p2), .val (.int p3), .val (.int p4), .val (.int p5), .val (.int (3 : Int32)), .val (.int ev0), .val (.int ev1), .val (.int ev2), .val (.int ev3), .val (.ref a160), .val (.ref r178), .unset, .unset] [])) _
      refine XS.aload X178.here hx rfl (hb hby at_92) rfl rfl ?_
      show Steps p.tables e below (T178.setTop (mkF m 94 #[.val (.int p1), .val (.int p2), .val (.int p3), .val (.int p4), .val (.int p5), .val (.int (3 : Int32)), .val (.int ev0), .val (.int ev1), .val (.int ev2), .val (.int ev3), .val (.ref a160), .val (.ref r178), .unset, .unset] [(.ref r178)])) _
      refine st181.trans ?_
      show Steps p.tables e below (T181.setTop (mkF m 97 #[.val (.int p1), .val (.int p2), .val (.int p3), .val (.int p4), .val (.int p5), .val (.int (3 : Int32)), .val (.int ev0), .val (.int ev1), .val (.int ev2), .val (.int ev3), .val (.ref a160), .val (.ref r178), .unset, .unset] [(.int (3 : Int32))])) _
      refine XS.iload X181.here hx rfl (hb hby at_97) rfl ?_
      show Steps p.tables e below (T181.setTop (mkF m 99 #[.val (.int p1), .val (.int p2), .val (.int p3), .val (.int p4), .val (.int p5), .val (.int (3 : Int32)), .val (.int ev0), .val (.int ev1), .val (.int ev2), .val (.int ev3), .val (.ref a160), .val (.ref r178), .unset, .unset] [(.int (3 : Int32)), (.int (3 : Int32))])) _
      refine XS.icmpYes X181.here hx rfl (pc0 := 99) (pc' := 104) rfl (hb hby at_99) rfl (teq hc99_182).1 (by decide) (by decide) ?_
      show Steps p.tables e below (T181.setTop (mkF m 104 #[.val (.int p1), .val (.int p2), .val (.int p3), .val (.int p4), .val (.int p5), .val (.int (3 : Int32)), .val (.int ev0), .val (.int ev1), .val (.int ev2), .val (.int ev3), .val (.ref a160), .val (.ref r178), .unset, .unset] [])) _
      refine XS.aload X181.here hx rfl (hb hby at_104) rfl rfl ?_
      show Steps p.tables e below (T181.setTop (mkF m 106 #[.val (.int p1), .val (.int p2), .val (.int p3), .val (.int p4), .val (.int p5), .val (.int (3 : Int32)), .val (.int ev0), .val (.int ev1), .val (.int ev2), .val (.int ev3), .val (.ref a160), .val (.ref r178), .unset, .unset] [(.ref r178)])) _
      refine st183.trans ?_
      show Steps p.tables e below (T183.setTop (mkF m 109 #[.val (.int p1), .val (.int p2), .val (.int p3), .val (.int p4), .val (.int p5), .val (.int (3 : Int32)), .val (.int ev0), .val (.int ev1), .val (.int ev2), .val (.int ev3), .val (.ref a160), .val (.ref r178), .unset, .unset] [(.ref r183)])) _
      refine XS.astore X183.here hx rfl (hb hby at_109) rfl rfl (l' := #[.val (.int p1), .val (.int p2), .val (.int p3), .val (.int p4), .val (.int p5), .val (.int (3 : Int32)), .val (.int ev0), .val (.int ev1), .val (.int ev2), .val (.int ev3), .val (.ref a160), .val (.ref r178), .val (.ref r183), .unset]) rfl ?_
      show Steps p.tables e below (T183.setTop (mkF m 111 #[.val (.int p1), .val (.int p2), .val (.int p3), .val (.int p4), .val (.int p5), .val (.int (3 : Int32)), .val (.int ev0), .val (.int ev1), .val (.int ev2), .val (.int ev3), .val (.ref a160), .val (.ref r178), .val (.ref r183), .unset] [])) _
      refine XS.aload X183.here hx rfl (hb hby at_111) rfl rfl ?_
      show Steps p.tables e below (T183.setTop (mkF m 113 #[.val (.int p1), .val (.int p2), .val (.int p3), .val (.int p4), .val (.int p5), .val (.int (3 : Int32)), .val (.int ev0), .val (.int ev1), .val (.int ev2), .val (.int ev3), .val (.ref a160), .val (.ref r178), .val (.ref r183), .unset] [(.ref r183)])) _
      refine XS.iload X183.here hx rfl (hb hby at_113) rfl ?_
      show Steps p.tables e below (T183.setTop (mkF m 115 #[.val (.int p1), .val (.int p2), .val (.int p3), .val (.int p4), .val (.int p5), .val (.int (3 : Int32)), .val (.int ev0), .val (.int ev1), .val (.int ev2), .val (.int ev3), .val (.ref a160), .val (.ref r178), .val (.ref r183), .unset] [(.int (3 : Int32)), (.ref r183)])) _
      refine XS.iload X183.here hx rfl (hb hby at_115) rfl ?_
      show Steps p.tables e below (T183.setTop (mkF m 117 #[.val (.int p1), .val (.int p2), .val (.int p3), .val (.int p4), .val (.int p5), .val (.int (3 : Int32)), .val (.int ev0), .val (.int ev1), .val (.int ev2), .val (.int ev3), .val (.ref a160), .val (.ref r178), .val (.ref r183), .unset] [(.int ev0), (.int (3 : Int32)), (.ref r183)])) _
      refine XS.iload X183.here hx rfl (hb hby at_117) rfl ?_
      show Steps p.tables e below (T183.setTop (mkF m 119 #[.val (.int p1), .val (.int p2), .val (.int p3), .val (.int p4), .val (.int p5), .val (.int (3 : Int32)), .val (.int ev0), .val (.int ev1), .val (.int ev2), .val (.int ev3), .val (.ref a160), .val (.ref r178), .val (.ref r183), .unset] [(.int ev1), (.int ev0), (.int (3 : Int32)), (.ref r183)])) _
      refine XS.iload X183.here hx rfl (hb hby at_119) rfl ?_
      show Steps p.tables e below (T183.setTop (mkF m 121 #[.val (.int p1), .val (.int p2), .val (.int p3), .val (.int p4), .val (.int p5), .val (.int (3 : Int32)), .val (.int ev0), .val (.int ev1), .val (.int ev2), .val (.int ev3), .val (.ref a160), .val (.ref r178), .val (.ref r183), .unset] [(.int ev2), (.int ev1), (.int ev0), (.int (3 : Int32)), (.ref r183)])) _
      refine XS.iload X183.here hx rfl (hb hby at_121) rfl ?_
      show Steps p.tables e below (T183.setTop (mkF m 123 #[.val (.int p1), .val (.int p2), .val (.int p3), .val (.int p4), .val (.int p5), .val (.int (3 : Int32)), .val (.int ev0), .val (.int ev1), .val (.int ev2), .val (.int ev3), .val (.ref a160), .val (.ref r178), .val (.ref r183), .unset] [(.int ev3), (.int ev2), (.int ev1), (.int ev0), (.int (3 : Int32)), (.ref r183)])) _
      refine st191 _ ?_
      show Steps p.tables e below (T191.setTop (mkF m 126 #[.val (.int p1), .val (.int p2), .val (.int p3), .val (.int p4), .val (.int p5), .val (.int (3 : Int32)), .val (.int ev0), .val (.int ev1), .val (.int ev2), .val (.int ev3), .val (.ref a160), .val (.ref r178), .val (.ref r183), .unset] [(.int (own_same_0 (fun i => ([ev0, ev1, ev2] : List Int32).getD i 0) (3 : Int32) (3 : Int32) ev0 ev1 ev2 ev3))])) _
      refine XS.ifYes X191.here hx rfl (pc0 := 126) (pc' := 131) rfl (hb hby at_126) rfl ((if0 _ _).trans (feq hc126_192).2) (by decide) (by decide) ?_
      show Steps p.tables e below (T191.setTop (mkF m 131 #[.val (.int p1), .val (.int p2), .val (.int p3), .val (.int p4), .val (.int p5), .val (.int (3 : Int32)), .val (.int ev0), .val (.int ev1), .val (.int ev2), .val (.int ev3), .val (.ref a160), .val (.ref r178), .val (.ref r183), .unset] [])) _
      refine XS.iload X191.here hx rfl (hb hby at_131) rfl ?_
      show Steps p.tables e below (T191.setTop (mkF m 133 #[.val (.int p1), .val (.int p2), .val (.int p3), .val (.int p4), .val (.int p5), .val (.int (3 : Int32)), .val (.int ev0), .val (.int ev1), .val (.int ev2), .val (.int ev3), .val (.ref a160), .val (.ref r178), .val (.ref r183), .unset] [(.int (3 : Int32))])) _
      refine XS.ifNo X191.here hx rfl (hb hby at_133) rfl ((if0 _ _).trans (tlt hc133_193).2.2.2) ?_
      show Steps p.tables e below (T191.setTop (mkF m 136 #[.val (.int p1), .val (.int p2), .val (.int p3), .val (.int p4), .val (.int p5), .val (.int (3 : Int32)), .val (.int ev0), .val (.int ev1), .val (.int ev2), .val (.int ev3), .val (.ref a160), .val (.ref r178), .val (.ref r183), .unset] [])) _
      refine XS.aload X191.here hx rfl (hb hby at_136) rfl rfl ?_
      show Steps p.tables e below (T191.setTop (mkF m 138 #[.val (.int p1), .val (.int p2), .val (.int p3), .val (.int p4), .val (.int p5), .val (.int (3 : Int32)), .val (.int ev0), .val (.int ev1), .val (.int ev2), .val (.int ev3), .val (.ref a160), .val (.ref r178), .val (.ref r183), .unset] [(.ref a160)])) _
      refine XS.iconst X191.here hx rfl (hb hby at_138) ?_
      show Steps p.tables e below (T191.setTop (mkF m 139 #[.val (.int p1), .val (.int p2), .val (.int p3), .val (.int p4), .val (.int p5), .val (.int (3 : Int32)), .val (.int ev0), .val (.int ev1), .val (.int ev2), .val (.int ev3), .val (.ref a160), .val (.ref r178), .val (.ref r183), .unset] [(.int (0 : Int32)), (.ref a160)])) _
      refine XS.iload X191.here hx rfl (hb hby at_139) rfl ?_
      show Steps p.tables e below (T191.setTop (mkF m 141 #[.val (.int p1), .val (.int p2), .val (.int p3), .val (.int p4), .val (.int p5), .val (.int (3 : Int32)), .val (.int ev0), .val (.int ev1), .val (.int ev2), .val (.int ev3), .val (.ref a160), .val (.ref r178), .val (.ref r183), .unset] [(.int ev0), (.int (0 : Int32)), (.ref a160)])) _
      refine XS.iconst X191.here hx rfl (hb hby at_141) ?_
      show Steps p.tables e below (T191.setTop (mkF m 142 #[.val (.int p1), .val (.int p2), .val (.int p3), .val (.int p4), .val (.int p5), .val (.int (3 : Int32)), .val (.int ev0), .val (.int ev1), .val (.int ev2), .val (.int ev3), .val (.ref a160), .val (.ref r178), .val (.ref r183), .unset] [(.int (-1 : Int32)), (.int ev0), (.int (0 : Int32)), (.ref a160)])) _
      refine XS.ixor X191.here hx rfl (hb hby at_142) rfl ?_
      show Steps p.tables e below (T191.setTop (mkF m 143 #[.val (.int p1), .val (.int p2), .val (.int p3), .val (.int p4), .val (.int p5), .val (.int (3 : Int32)), .val (.int ev0), .val (.int ev1), .val (.int ev2), .val (.int ev3), .val (.ref a160), .val (.ref r178), .val (.ref r183), .unset] [(.int (ev0 ^^^ (-1 : Int32))), (.int (0 : Int32)), (.ref a160)])) _
      refine XS.i2b X191.here hx rfl (hb hby at_143) rfl ?_
      show Steps p.tables e below (T191.setTop (mkF m 144 #[.val (.int p1), .val (.int p2), .val (.int p3), .val (.int p4), .val (.int p5), .val (.int (3 : Int32)), .val (.int ev0), .val (.int ev1), .val (.int ev2), .val (.int ev3), .val (.ref a160), .val (.ref r178), .val (.ref r183), .unset] [(.int ((ev0 ^^^ (-1 : Int32)).toInt8.toInt32)), (.int (0 : Int32)), (.ref a160)])) _
      refine st195 _ ?_
      show Steps p.tables e below (T195.setTop (mkF m 145 #[.val (.int p1), .val (.int p2), .val (.int p3), .val (.int p4), .val (.int p5), .val (.int (3 : Int32)), .val (.int ev0), .val (.int ev1), .val (.int ev2), .val (.int ev3), .val (.ref a160), .val (.ref r178), .val (.ref r183), .unset] [])) _
      refine XS.iload X195.here hx rfl (hb hby at_145) rfl ?_
      show Steps p.tables e below (T195.setTop (mkF m 147 #[.val (.int p1), .val (.int p2), .val (.int p3), .val (.int p4), .val (.int p5), .val (.int (3 : Int32)), .val (.int ev0), .val (.int ev1), .val (.int ev2), .val (.int ev3), .val (.ref a160), .val (.ref r178), .val (.ref r183), .unset] [(.int (3 : Int32))])) _
      refine XS.iconst X195.here hx rfl (hb hby at_147) ?_
      show Steps p.tables e below (T195.setTop (mkF m 148 #[.val (.int p1), .val (.int p2), .val (.int p3), .val (.int p4), .val (.int p5), .val (.int (3 : Int32)), .val (.int ev0), .val (.int ev1), .val (.int ev2), .val (.int ev3), .val (.ref a160), .val (.ref r178), .val (.ref r183), .unset] [(.int (1 : Int32)), (.int (3 : Int32))])) _
      refine XS.icmpNo X195.here hx rfl (hb hby at_148) rfl (tlt hc148_204).2.2.2 ?_
      show Steps p.tables e below (T195.setTop (mkF m 151 #[.val (.int p1), .val (.int p2), .val (.int p3), .val (.int p4), .val (.int p5), .val (.int (3 : Int32)), .val (.int ev0), .val (.int ev1), .val (.int ev2), .val (.int ev3), .val (.ref a160), .val (.ref r178), .val (.ref r183), .unset] [])) _
      refine XS.aload X195.here hx rfl (hb hby at_151) rfl rfl ?_
      show Steps p.tables e below (T195.setTop (mkF m 153 #[.val (.int p1), .val (.int p2), .val (.int p3), .val (.int p4), .val (.int p5), .val (.int (3 : Int32)), .val (.int ev0), .val (.int ev1), .val (.int ev2), .val (.int ev3), .val (.ref a160), .val (.ref r178), .val (.ref r183), .unset] [(.ref a160)])) _
      refine XS.iconst X195.here hx rfl (hb hby at_153) ?_
      show Steps p.tables e below (T195.setTop (mkF m 154 #[.val (.int p1), .val (.int p2), .val (.int p3), .val (.int p4), .val (.int p5), .val (.int (3 : Int32)), .val (.int ev0), .val (.int ev1), .val (.int ev2), .val (.int ev3), .val (.ref a160), .val (.ref r178), .val (.ref r183), .unset] [(.int (1 : Int32)), (.ref a160)])) _
      refine XS.iload X195.here hx rfl (hb hby at_154) rfl ?_
      show Steps p.tables e below (T195.setTop (mkF m 156 #[.val (.int p1), .val (.int p2), .val (.int p3), .val (.int p4), .val (.int p5), .val (.int (3 : Int32)), .val (.int ev0), .val (.int ev1), .val (.int ev2), .val (.int ev3), .val (.ref a160), .val (.ref r178), .val (.ref r183), .unset] [(.int ev1), (.int (1 : Int32)), (.ref a160)])) _
      refine XS.iconst X195.here hx rfl (hb hby at_156) ?_
      show Steps p.tables e below (T195.setTop (mkF m 157 #[.val (.int p1), .val (.int p2), .val (.int p3), .val (.int p4), .val (.int p5), .val (.int (3 : Int32)), .val (.int ev0), .val (.int ev1), .val (.int ev2), .val (.int ev3), .val (.ref a160), .val (.ref r178), .val (.ref r183), .unset] [(.int (-1 : Int32)), (.int ev1), (.int (1 : Int32)), (.ref a160)])) _
      refine XS.ixor X195.here hx rfl (hb hby at_157) rfl ?_
      show Steps p.tables e below (T195.setTop (mkF m 158 #[.val (.int p1), .val (.int p2), .val (.int p3), .val (.int p4), .val (.int p5), .val (.int (3 : Int32)), .val (.int ev0), .val (.int ev1), .val (.int ev2), .val (.int ev3), .val (.ref a160), .val (.ref r178), .val (.ref r183), .unset] [(.int (ev1 ^^^ (-1 : Int32))), (.int (1 : Int32)), (.ref a160)])) _
      refine XS.i2b X195.here hx rfl (hb hby at_158) rfl ?_
      show Steps p.tables e below (T195.setTop (mkF m 159 #[.val (.int p1), .val (.int p2), .val (.int p3), .val (.int p4), .val (.int p5), .val (.int (3 : Int32)), .val (.int ev0), .val (.int ev1), .val (.int ev2), .val (.int ev3), .val (.ref a160), .val (.ref r178), .val (.ref r183), .unset] [(.int ((ev1 ^^^ (-1 : Int32)).toInt8.toInt32)), (.int (1 : Int32)), (.ref a160)])) _
      refine st206 _ ?_
      show Steps p.tables e below (T206.setTop (mkF m 160 #[.val (.int p1), .val (.int p2), .val (.int p3), .val (.int p4), .val (.int p5), .val (.int (3 : Int32)), .val (.int ev0), .val (.int ev1), .val (.int ev2), .val (.int ev3), .val (.ref a160), .val (.ref r178), .val (.ref r183), .unset] [])) _
      refine XS.iload X206.here hx rfl (hb hby at_160) rfl ?_
      show Steps p.tables e below (T206.setTop (mkF m 162 #[.val (.int p1), .val (.int p2), .val (.int p3), .val (.int p4), .val (.int p5), .val (.int (3 : Int32)), .val (.int ev0), .val (.int ev1), .val (.int ev2), .val (.int ev3), .val (.ref a160), .val (.ref r178), .val (.ref r183), .unset] [(.int (3 : Int32))])) _
      refine XS.iconst X206.here hx rfl (hb hby at_162) ?_
      show Steps p.tables e below (T206.setTop (mkF m 163 #[.val (.int p1), .val (.int p2), .val (.int p3), .val (.int p4), .val (.int p5), .val (.int (3 : Int32)), .val (.int ev0), .val (.int ev1), .val (.int ev2), .val (.int ev3), .val (.ref a160), .val (.ref r178), .val (.ref r183), .unset] [(.int (2 : Int32)), (.int (3 : Int32))])) _
      refine XS.icmpNo X206.here hx rfl (hb hby at_163) rfl (tlt hc163_215).2.2.2 ?_
      show Steps p.tables e below (T206.setTop (mkF m 166 #[.val (.int p1), .val (.int p2), .val (.int p3), .val (.int p4), .val (.int p5), .val (.int (3 : Int32)), .val (.int ev0), .val (.int ev1), .val (.int ev2), .val (.int ev3), .val (.ref a160), .val (.ref r178), .val (.ref r183), .unset] [])) _
      refine XS.aload X206.here hx rfl (hb hby at_166) rfl rfl ?_
      show Steps p.tables e below (T206.setTop (mkF m 168 #[.val (.int p1), .val (.int p2), .val (.int p3), .val (.int p4), .val (.int p5), .val (.int (3 : Int32)), .val (.int ev0), .val (.int ev1), .val (.int ev2), .val (.int ev3), .val (.ref a160), .val (.ref r178), .val (.ref r183), .unset] [(.ref a160)])) _
      refine XS.iconst X206.here hx rfl (hb hby at_168) ?_
      show Steps p.tables e below (T206.setTop (mkF m 169 #[.val (.int p1), .val (.int p2), .val (.int p3), .val (.int p4), .val (.int p5), .val (.int (3 : Int32)), .val (.int ev0), .val (.int ev1), .val (.int ev2), .val (.int ev3), .val (.ref a160), .val (.ref r178), .val (.ref r183), .unset] [(.int (2 : Int32)), (.ref a160)])) _
      refine XS.iload X206.here hx rfl (hb hby at_169) rfl ?_
      show Steps p.tables e below (T206.setTop (mkF m 171 #[.val (.int p1), .val (.int p2), .val (.int p3), .val (.int p4), .val (.int p5), .val (.int (3 : Int32)), .val (.int ev0), .val (.int ev1), .val (.int ev2), .val (.int ev3), .val (.ref a160), .val (.ref r178), .val (.ref r183), .unset] [(.int ev2), (.int (2 : Int32)), (.ref a160)])) _
      refine XS.iconst X206.here hx rfl (hb hby at_171) ?_
      show Steps p.tables e below (T206.setTop (mkF m 172 #[.val (.int p1), .val (.int p2), .val (.int p3), .val (.int p4), .val (.int p5), .val (.int (3 : Int32)), .val (.int ev0), .val (.int ev1), .val (.int ev2), .val (.int ev3), .val (.ref a160), .val (.ref r178), .val (.ref r183), .unset] [(.int (-1 : Int32)), (.int ev2), (.int (2 : Int32)), (.ref a160)])) _
      refine XS.ixor X206.here hx rfl (hb hby at_172) rfl ?_
      show Steps p.tables e below (T206.setTop (mkF m 173 #[.val (.int p1), .val (.int p2), .val (.int p3), .val (.int p4), .val (.int p5), .val (.int (3 : Int32)), .val (.int ev0), .val (.int ev1), .val (.int ev2), .val (.int ev3), .val (.ref a160), .val (.ref r178), .val (.ref r183), .unset] [(.int (ev2 ^^^ (-1 : Int32))), (.int (2 : Int32)), (.ref a160)])) _
      refine XS.i2b X206.here hx rfl (hb hby at_173) rfl ?_
      show Steps p.tables e below (T206.setTop (mkF m 174 #[.val (.int p1), .val (.int p2), .val (.int p3), .val (.int p4), .val (.int p5), .val (.int (3 : Int32)), .val (.int ev0), .val (.int ev1), .val (.int ev2), .val (.int ev3), .val (.ref a160), .val (.ref r178), .val (.ref r183), .unset] [(.int ((ev2 ^^^ (-1 : Int32)).toInt8.toInt32)), (.int (2 : Int32)), (.ref a160)])) _
      refine st217 _ ?_
      show Steps p.tables e below (T217.setTop (mkF m 175 #[.val (.int p1), .val (.int p2), .val (.int p3), .val (.int p4), .val (.int p5), .val (.int (3 : Int32)), .val (.int ev0), .val (.int ev1), .val (.int ev2), .val (.int ev3), .val (.ref a160), .val (.ref r178), .val (.ref r183), .unset] [])) _
      refine XS.iload X217.here hx rfl (hb hby at_175) rfl ?_
      show Steps p.tables e below (T217.setTop (mkF m 177 #[.val (.int p1), .val (.int p2), .val (.int p3), .val (.int p4), .val (.int p5), .val (.int (3 : Int32)), .val (.int ev0), .val (.int ev1), .val (.int ev2), .val (.int ev3), .val (.ref a160), .val (.ref r178), .val (.ref r183), .unset] [(.int (3 : Int32))])) _
      refine XS.iconst X217.here hx rfl (hb hby at_177) ?_
      show Steps p.tables e below (T217.setTop (mkF m 178 #[.val (.int p1), .val (.int p2), .val (.int p3), .val (.int p4), .val (.int p5), .val (.int (3 : Int32)), .val (.int ev0), .val (.int ev1), .val (.int ev2), .val (.int ev3), .val (.ref a160), .val (.ref r178), .val (.ref r183), .unset] [(.int (3 : Int32)), (.int (3 : Int32))])) _
      refine XS.icmpYes X217.here hx rfl (pc0 := 178) (pc' := 190) rfl (hb hby at_178) rfl (flt hc178_226).2.2.2 (by decide) (by decide) ?_
      show Steps p.tables e below (T217.setTop (mkF m 190 #[.val (.int p1), .val (.int p2), .val (.int p3), .val (.int p4), .val (.int p5), .val (.int (3 : Int32)), .val (.int ev0), .val (.int ev1), .val (.int ev2), .val (.int ev3), .val (.ref a160), .val (.ref r178), .val (.ref r183), .unset] [])) _
      refine XS.aload X217.here hx rfl (hb hby at_190) rfl rfl ?_
      show Steps p.tables e below (T217.setTop (mkF m 192 #[.val (.int p1), .val (.int p2), .val (.int p3), .val (.int p4), .val (.int p5), .val (.int (3 : Int32)), .val (.int ev0), .val (.int ev1), .val (.int ev2), .val (.int ev3), .val (.ref a160), .val (.ref r178), .val (.ref r183), .unset] [(.ref r178)])) _
      refine st227.trans ?_
      show Steps p.tables e below (T227.setTop (mkF m 195 #[.val (.int p1), .val (.int p2), .val (.int p3), .val (.int p4), .val (.int p5), .val (.int (3 : Int32)), .val (.int ev0), .val (.int ev1), .val (.int ev2), .val (.int ev3), .val (.ref a160), .val (.ref r178), .val (.ref r183), .unset] [(.ref r227)])) _
      refine XS.astore X227.here hx rfl (hb hby at_195) rfl rfl (l' := #[.val (.int p1), .val (.int p2), .val (.int p3), .val (.int p4), .val (.int p5), .val (.int (3 : Int32)), .val (.int ev0), .val (.int ev1), .val (.int ev2), .val (.int ev3), .val (.ref a160), .val (.ref r178), .val (.ref r183), .val (.ref r227)]) rfl ?_
      show Steps p.tables e below (T227.setTop (mkF m 197 #[.val (.int p1), .val (.int p2), .val (.int p3), .val (.int p4), .val (.int p5), .val (.int (3 : Int32)), .val (.int ev0), .val (.int ev1), .val (.int ev2), .val (.int ev3), .val (.ref a160), .val (.ref r178), .val (.ref r183), .val (.ref r227)] [])) _
      refine XS.aload X227.here hx rfl (hb hby at_197) rfl rfl ?_
      show Steps p.tables e below (T227.setTop (mkF m 199 #[.val (.int p1), .val (.int p2), .val (.int p3), .val (.int p4), .val (.int p5), .val (.int (3 : Int32)), .val (.int ev0), .val (.int ev1), .val (.int ev2), .val (.int ev3), .val (.ref a160), .val (.ref r178), .val (.ref r183), .val (.ref r227)] [(.ref r227)])) _
      refine XS.iload X227.here hx rfl (hb hby at_199) rfl ?_
      show Steps p.tables e below (T227.setTop (mkF m 201 #[.val (.int p1), .val (.int p2), .val (.int p3), .val (.int p4), .val (.int p5), .val (.int (3 : Int32)), .val (.int ev0), .val (.int ev1), .val (.int ev2), .val (.int ev3), .val (.ref a160), .val (.ref r178), .val (.ref r183), .val (.ref r227)] [(.int (3 : Int32)), (.ref r227)])) _
      refine XS.iload X227.here hx rfl (hb hby at_201) rfl ?_
      show Steps p.tables e below (T227.setTop (mkF m 203 #[.val (.int p1), .val (.int p2), .val (.int p3), .val (.int p4), .val (.int p5), .val (.int (3 : Int32)), .val (.int ev0), .val (.int ev1), .val (.int ev2), .val (.int ev3), .val (.ref a160), .val (.ref r178), .val (.ref r183), .val (.ref r227)] [(.int ev0), (.int (3 : Int32)), (.ref r227)])) _
      refine XS.iload X227.here hx rfl (hb hby at_203) rfl ?_
      show Steps p.tables e below (T227.setTop (mkF m 205 #[.val (.int p1), .val (.int p2), .val (.int p3), .val (.int p4), .val (.int p5), .val (.int (3 : Int32)), .val (.int ev0), .val (.int ev1), .val (.int ev2), .val (.int ev3), .val (.ref a160), .val (.ref r178), .val (.ref r183), .val (.ref r227)] [(.int ev1), (.int ev0), (.int (3 : Int32)), (.ref r227)])) _
      refine XS.iload X227.here hx rfl (hb hby at_205) rfl ?_
      show Steps p.tables e below (T227.setTop (mkF m 207 #[.val (.int p1), .val (.int p2), .val (.int p3), .val (.int p4), .val (.int p5), .val (.int (3 : Int32)), .val (.int ev0), .val (.int ev1), .val (.int ev2), .val (.int ev3), .val (.ref a160), .val (.ref r178), .val (.ref r183), .val (.ref r227)] [(.int ev2), (.int ev1), (.int ev0), (.int (3 : Int32)), (.ref r227)])) _
      refine XS.iload X227.here hx rfl (hb hby at_207) rfl ?_
      show Steps p.tables e below (T227.setTop (mkF m 209 #[.val (.int p1), .val (.int p2), .val (.int p3), .val (.int p4), .val (.int p5), .val (.int (3 : Int32)), .val (.int ev0), .val (.int ev1), .val (.int ev2), .val (.int ev3), .val (.ref a160), .val (.ref r178), .val (.ref r183), .val (.ref r227)] [(.int ev3), (.int ev2), (.int ev1), (.int ev0), (.int (3 : Int32)), (.ref r227)])) _
      refine st237 _ ?_
      show Steps p.tables e below (T237.setTop (mkF m 212 #[.val (.int p1), .val (.int p2), .val (.int p3), .val (.int p4), .val (.int p5), .val (.int (3 : Int32)), .val (.int ev0), .val (.int ev1), .val (.int ev2), .val (.int ev3), .val (.ref a160), .val (.ref r178), .val (.ref r183), .val (.ref r227)] [(.int (own_same_0 (fun i => ([ev0, ev1, ev2] : List Int32).getD i 0) (3 : Int32) (3 : Int32) ev0 ev1 ev2 ev3))])) _
      refine XS.ifYes X237.here hx rfl (pc0 := 212) (pc' := 217) rfl (hb hby at_212) rfl ((if0 _ _).trans (feq hc212_238).2) (by decide) (by decide) ?_
      show Steps p.tables e below (T237.setTop (mkF m 217 #[.val (.int p1), .val (.int p2), .val (.int p3), .val (.int p4), .val (.int p5), .val (.int (3 : Int32)), .val (.int ev0), .val (.int ev1), .val (.int ev2), .val (.int ev3), .val (.ref a160), .val (.ref r178), .val (.ref r183), .val (.ref r227)] [])) _
      refine XS.aload X237.here hx rfl (hb hby at_217) rfl rfl ?_
      show Steps p.tables e below (T237.setTop (mkF m 219 #[.val (.int p1), .val (.int p2), .val (.int p3), .val (.int p4), .val (.int p5), .val (.int (3 : Int32)), .val (.int ev0), .val (.int ev1), .val (.int ev2), .val (.int ev3), .val (.ref a160), .val (.ref r178), .val (.ref r183), .val (.ref r227)] [(.ref r178)])) _
      refine st239.trans ?_
      show Steps p.tables e below (T239.setTop (mkF m 222 #[.val (.int p1), .val (.int p2), .val (.int p3), .val (.int p4), .val (.int p5), .val (.int (3 : Int32)), .val (.int ev0), .val (.int ev1), .val (.int ev2), .val (.int ev3), .val (.ref a160), .val (.ref r178), .val (.ref r183), .val (.ref r227)] [(.int (3 : Int32))])) _
      refine XS.iload X239.here hx rfl (hb hby at_222) rfl ?_
      show Steps p.tables e below (T239.setTop (mkF m 224 #[.val (.int p1), .val (.int p2), .val (.int p3), .val (.int p4), .val (.int p5), .val (.int (3 : Int32)), .val (.int ev0), .val (.int ev1), .val (.int ev2), .val (.int ev3), .val (.ref a160), .val (.ref r178), .val (.ref r183), .val (.ref r227)] [(.int (3 : Int32)), (.int (3 : Int32))])) _
      refine XS.icmpNo X239.here hx rfl (hb hby at_224) rfl (teq hc224_240).2 ?_
      show Steps p.tables e below (T239.setTop (mkF m 227 #[.val (.int p1), .val (.int p2), .val (.int p3), .val (.int p4), .val (.int p5), .val (.int (3 : Int32)), .val (.int ev0), .val (.int ev1), .val (.int ev2), .val (.int ev3), .val (.ref a160), .val (.ref r178), .val (.ref r183), .val (.ref r227)] [])) _
      refine XS.iconst X239.here hx rfl (hb hby at_227) ?_
      show Steps p.tables e below (T239.setTop (mkF m 228 #[.val (.int p1), .val (.int p2), .val (.int p3), .val (.int p4), .val (.int p5), .val (.int (3 : Int32)), .val (.int ev0), .val (.int ev1), .val (.int ev2), .val (.int ev3), .val (.ref a160), .val (.ref r178), .val (.ref r183), .val (.ref r227)] [(.int (1 : Int32))])) _
      refine XS.goto X239.here hx rfl (pc0 := 228) (pc' := 232) rfl (hb hby at_228) (by decide) (by decide) ?_
      show Steps p.tables e below (T239.setTop (mkF m 232 #[.val (.int p1), .val (.int p2), .val (.int p3), .val (.int p4), .val (.int p5), .val (.int (3 : Int32)), .val (.int ev0), .val (.int ev1), .val (.int ev2), .val (.int ev3), .val (.ref a160), .val (.ref r178), .val (.ref r183), .val (.ref r227)] [(.int (1 : Int32))])) _
      exact retN X239 hx (t := .boolean) Bd.returns (by simp) (hb hby at_232) hr
    · exact ⟨rfl, N239⟩
  · obtain ⟨T241, h241, k241, X241, e241, E241, A241, B241, st241⟩ := newPE X0 hx hZ (hw _ (List.mem_of_getElem? (i := 1) rfl)) e0 (g := (mkF m 27 #[.val (.int p1), .val (.int p2), .val (.int p3), .val (.int p4), .val (.int p5), .val (.int (4 : Int32)), .val (.int ev0), .val (.int ev1), .val (.int ev2), .val (.int ev3), .unset, .unset, .unset, .unset] [(.int (4 : Int32))])) rfl (hb hby at_27) rfl (by decide) (cap := 4) (by decide) (by decide) (by decide) (by decide) (ad := "[B") (by first | rfl | decide +kernel)
    obtain ⟨a241, ga241⟩ : ∃ z, z = h0.size := ⟨_, rfl⟩
    rw [← ga241] at A241 B241 st241
    have lo241 : n0 ≤ a241 := Nat.le_trans Z0 (Nat.le_of_eq ga241.symm)
    have Z241 : n0 ≤ h241.size := Nat.le_trans Z0 E241.1
    have V242 : Arv Z h241 a241 k241 .byte (4 : Int32) [(.int (0 : Int32)), (.int (0 : Int32)), (.int (0 : Int32)), (.int (0 : Int32))] (.int (0 : Int32)) := (Arv.new A241 (by decide)).pad (pad_rep [] (.int (0 : Int32)) 4)
    have hc33_243 : (0 : Int32) < (4 : Int32) := (by decide)
    obtain ⟨cl244, Ar244, q244, S244, M244, H244, U244⟩ := id V242
    obtain ⟨T245, h245, X245, e245, W245, st245⟩ := stB X241 hx hZ e241 Ar244 (j := (0 : Int32)) (by rw [S244]; decide) (g := (mkF m 41 #[.val (.int p1), .val (.int p2), .val (.int p3), .val (.int p4), .val (.int p5), .val (.int (4 : Int32)), .val (.int ev0), .val (.int ev1), .val (.int ev2), .val (.int ev3), .val (.ref a241), .unset, .unset, .unset] [(.int ev0), (.int (0 : Int32)), (.ref a241)])) rfl rfl (hb hby at_41)
    have N245 := Fr.snoc X245 N0 lo241
    have V246 : Arv Z h245 a241 k241 .byte (4 : Int32) [(.int (nar .byte ev0)), (.int (0 : Int32)), (.int (0 : Int32)), (.int (0 : Int32))] (.int (0 : Int32)) := Arv.set Ar244 q244 S244 M244 H244 U244 (fits_nar_byte _) W245 0 rfl (by show 0 < 4; decide)
    rw [hb96] at V246
    have E247 := B241.wr W245
    have Z245 : n0 ≤ h245.size := by rw [W245.size]; exact Z241
    have hc45_248 : (1 : Int32) < (4 : Int32) := (by decide)
    obtain ⟨cl249, Ar249, q249, S249, M249, H249, U249⟩ := id V246
    obtain ⟨T250, h250, X250, e250, W250, st250⟩ := stB X245 hx hZ e245 Ar249 (j := (1 : Int32)) (by rw [S249]; decide) (g := (mkF m 53 #[.val (.int p1), .val (.int p2), .val (.int p3), .val (.int p4), .val (.int p5), .val (.int (4 : Int32)), .val (.int ev0), .val (.int ev1), .val (.int ev2), .val (.int ev3), .val (.ref a241), .unset, .unset, .unset] [(.int ev1), (.int (1 : Int32)), (.ref a241)])) rfl rfl (hb hby at_53)
    have N250 := Fr.snoc X250 N245 lo241
    have V251 : Arv Z h250 a241 k241 .byte (4 : Int32) [(.int ev0), (.int (nar .byte ev1)), (.int (0 : Int32)), (.int (0 : Int32))] (.int (0 : Int32)) := Arv.set Ar249 q249 S249 M249 H249 U249 (fits_nar_byte _) W250 1 rfl (by show 1 < 4; decide)
    rw [hb97] at V251
    have E252 := E247.wr W250
    have Z250 : n0 ≤ h250.size := by rw [W250.size]; exact Z245
    have hc57_253 : (2 : Int32) < (4 : Int32) := (by decide)
    obtain ⟨cl254, Ar254, q254, S254, M254, H254, U254⟩ := id V251
    obtain ⟨T255, h255, X255, e255, W255, st255⟩ := stB X250 hx hZ e250 Ar254 (j := (2 : Int32)) (by rw [S254]; decide) (g := (mkF m 65 #[.val (.int p1), .val (.int p2), .val (.int p3), .val (.int p4), .val (.int p5), .val (.int (4 : Int32)), .val (.int ev0), .val (.int ev1), .val (.int ev2), .val (.int ev3), .val (.ref a241), .unset, .unset, .unset] [(.int ev2), (.int (2 : Int32)), (.ref a241)])) rfl rfl (hb hby at_65)
    have N255 := Fr.snoc X255 N250 lo241
    have V256 : Arv Z h255 a241 k241 .byte (4 : Int32) [(.int ev0), (.int ev1), (.int (nar .byte ev2)), (.int (0 : Int32))] (.int (0 : Int32)) := Arv.set Ar254 q254 S254 M254 H254 U254 (fits_nar_byte _) W255 2 rfl (by show 2 < 4; decide)
    rw [hb98] at V256
    have E257 := E252.wr W255
    have Z255 : n0 ≤ h255.size := by rw [W255.size]; exact Z250
    have hc69_258 : (3 : Int32) < (4 : Int32) := (by decide)
    obtain ⟨cl259, Ar259, q259, S259, M259, H259, U259⟩ := id V256
    obtain ⟨T260, h260, X260, e260, W260, st260⟩ := stB X255 hx hZ e255 Ar259 (j := (3 : Int32)) (by rw [S259]; decide) (g := (mkF m 77 #[.val (.int p1), .val (.int p2), .val (.int p3), .val (.int p4), .val (.int p5), .val (.int (4 : Int32)), .val (.int ev0), .val (.int ev1), .val (.int ev2), .val (.int ev3), .val (.ref a241), .unset, .unset, .unset] [(.int ev3), (.int (3 : Int32)), (.ref a241)])) rfl rfl (hb hby at_77)
    have N260 := Fr.snoc X260 N255 lo241
    have V261 : Arv Z h260 a241 k241 .byte (4 : Int32) [(.int ev0), (.int ev1), (.int ev2), (.int (nar .byte ev3))] (.int (0 : Int32)) := Arv.set Ar259 q259 S259 M259 H259 U259 (fits_nar_byte _) W260 3 rfl (by show 3 < 4; decide)
    rw [hb99] at V261
    have E262 := E257.wr W260
    have Z260 : n0 ≤ h260.size := by rw [W260.size]; exact Z255
    obtain ⟨_, _, ⟨T263, uL263, uk263, un263⟩, -, X263, ⟨Lc263, hQ263, ul263, uy263, uz263⟩, st263⟩ := Jvm.LawKit.callS X260 hx (y := (⟨"com/example/cicada/cicada/core/Payload", "of", "([B)Lcom/example/cicada/cicada/core/Payload;"⟩ : MethodName)) hown (mvT hZ (hw _ (List.mem_of_getElem? (i := 2) rfl))) (mvT hZ (hw _ (List.mem_of_getElem? (i := 3) rfl))) (mvT hZ (hw _ (List.mem_of_getElem? (i := 4) rfl))) (mvT hZ (hw _ (List.mem_of_getElem? (i := 5) rfl))) (by decide) (backOf (W := 0) (rm2 l Z a0 hw [] a241 k241 (4 : Int32) [(.int ev0), (.int ev1), (.int ev2), (.int ev3)] h260 n0 Z260 V261 E262 (by decide)) hZ (hw _ (List.mem_of_getElem? (i := 5) rfl)) (hw _ (List.mem_of_getElem? (i := 4) rfl)) (by decide) (by decide)) (g := (mkF m 80 #[.val (.int p1), .val (.int p2), .val (.int p3), .val (.int p4), .val (.int p5), .val (.int (4 : Int32)), .val (.int ev0), .val (.int ev1), .val (.int ev2), .val (.int ev3), .val (.ref a241), .unset, .unset, .unset] [(.ref a241)])) rfl (by rw [hml]; rfl) (argsL := [(.ref a241)]) (rest := []) (lenOf pd__28_5bB_29Lcom_2fexample_2fcicada_2fcicada_2fcore_2fPayload_3b rfl) rfl (by show 2 * 0 + _ ≤ _; exact Nat.le_of_eq rfl) (hb hby at_80) (fun _ _ => ⟨rfl, e260, (by decide : 1 + 2 ≤ _), (by decide : 4 + 5 ≤ _)⟩)
    dsimp only [Pt.U, Pt.locs, Pt.cells, Pt.slots] at X263 ul263 uy263 uz263 st263 hQ263
    subst ul263 uy263 uz263
    obtain ⟨r263, s263, rfl, Nq263, K263, ge263, lt263, Er263, Fr263, Es263, Vs263⟩ := hQ263
    have lr263_a241 : a241 < r263 := Nat.lt_of_lt_of_le E262.lt ge263
    have ls263_a241 : a241 < s263 := Nat.lt_trans lr263_a241 lt263
    have E264 := E262.keep K263
    have V265 := V261.keep K263 nin0
    have Z263 : n0 ≤ T263.heap.size := Nat.le_trans Z260 K263.1
    have N263 := Fr.app N260 Nq263
    obtain ⟨cq266, kq266, qa266, qb266, qc266⟩ := isOf hZ rfl Er263
    obtain ⟨_, _, ⟨T266, uL266, uk266, un266⟩, -, X266, ⟨Lc266, hQ266, ul266, uy266, uz266⟩, st266⟩ := X263.virtualBack hx (y := (⟨"com/example/cicada/cicada/core/Payload", "size", "()I"⟩ : MethodName)) (z := (⟨"com/example/cicada/cicada/core/Payload", "size", "()I"⟩ : MethodName)) hown (mvT hZ (hw _ (List.mem_of_getElem? (i := 25) rfl))) (mvT hZ (hw _ (List.mem_of_getElem? (i := 26) rfl))) (notFace_of_selects (args := #[]) (mvT hZ (hw _ (List.mem_of_getElem? (i := 28) rfl)))) (mvT hZ (hw _ (List.mem_of_getElem? (i := 28) rfl))) (mvT hZ (hw _ (List.mem_of_getElem? (i := 27) rfl))) (by decide) (backOf (W := 0) (rm3 l Z a0 hw [] r263 s263 k241 (4 : Int32) [(.int ev0), (.int ev1), (.int ev2), (.int ev3)] T263.heap n0 Z263 Fr263 Vs263) hZ (hw _ (List.mem_of_getElem? (i := 29) rfl)) (hw _ (List.mem_of_getElem? (i := 4) rfl)) (by decide) (by decide)) qa266 qc266 (g := (mkF m 94 #[.val (.int p1), .val (.int p2), .val (.int p3), .val (.int p4), .val (.int p5), .val (.int (4 : Int32)), .val (.int ev0), .val (.int ev1), .val (.int ev2), .val (.int ev3), .val (.ref a241), .val (.ref r263), .unset, .unset] [(.ref r263)])) rfl (by rw [hml]; rfl) (Steps.refl _) (argsL := []) (rest := []) (lenOf pd__28_29I rfl) rfl (by show 2 * 0 + _ ≤ _; exact Nat.le_of_eq rfl) (hb hby at_94) (fun _ _ => ⟨rfl, rfl, (by decide : 3 + 0 ≤ _), (by decide : 9 + 0 ≤ _)⟩)
    dsimp only [Pt.U, Pt.locs, Pt.cells, Pt.slots] at X266 ul266 uy266 uz266 st266 hQ266
    subst ul266 uy266 uz266
    obtain ⟨rfl, Nq266, e266⟩ := hQ266
    have N266 := Fr.app N263 Nq266
    have hc99_267 : (4 : Int32) = (4 : Int32) := (by decide)
    obtain ⟨cq268, kq268, qa268, qb268, qc268⟩ := isOf hZ e266 Er263
    obtain ⟨_, _, ⟨T268, uL268, uk268, un268⟩, -, X268, ⟨Lc268, hQ268, ul268, uy268, uz268⟩, st268⟩ := X266.virtualBack hx (y := (⟨"com/example/cicada/cicada/core/Payload", "bytes", "()[B"⟩ : MethodName)) (z := (⟨"com/example/cicada/cicada/core/Payload", "bytes", "()[B"⟩ : MethodName)) hown (mvT hZ (hw _ (List.mem_of_getElem? (i := 30) rfl))) (mvT hZ (hw _ (List.mem_of_getElem? (i := 31) rfl))) (notFace_of_selects (args := #[]) (mvT hZ (hw _ (List.mem_of_getElem? (i := 33) rfl)))) (mvT hZ (hw _ (List.mem_of_getElem? (i := 33) rfl))) (mvT hZ (hw _ (List.mem_of_getElem? (i := 32) rfl))) (by decide) (backOf (W := 0) (rm4 l Z a0 hw [] r263 s263 k241 (4 : Int32) [(.int ev0), (.int ev1), (.int ev2), (.int ev3)] T263.heap n0 Z263 Fr263 Vs263 Es263 (by decide)) hZ (hw _ (List.mem_of_getElem? (i := 34) rfl)) (hw _ (List.mem_of_getElem? (i := 4) rfl)) (by decide) (by decide)) qa268 qc268 (g := (mkF m 106 #[.val (.int p1), .val (.int p2), .val (.int p3), .val (.int p4), .val (.int p5), .val (.int (4 : Int32)), .val (.int ev0), .val (.int ev1), .val (.int ev2), .val (.int ev3), .val (.ref a241), .val (.ref r263), .unset, .unset] [(.ref r263)])) rfl (by rw [hml]; rfl) (Steps.refl _) (argsL := []) (rest := []) (lenOf pd__28_29_5bB rfl) rfl (by show 2 * 0 + _ ≤ _; exact Nat.le_of_eq rfl) (hb hby at_106) (fun _ _ => ⟨rfl, e266, (by decide : 3 + 1 ≤ _), (by decide : 9 + 4 ≤ _)⟩)
    dsimp only [Pt.U, Pt.locs, Pt.cells, Pt.slots] at X268 ul268 uy268 uz268 st268 hQ268
    subst ul268 uy268 uz268
    obtain ⟨r268, rfl, Nq268, K268, ge268, Er268, Vr268⟩ := hQ268
    have lr268_a241 : a241 < r268 := Nat.lt_of_lt_of_le E264.lt ge268
    have lr268_r263 : r263 < r268 := Nat.lt_of_lt_of_le Er263.lt ge268
    have lr268_s263 : s263 < r268 := Nat.lt_of_lt_of_le Es263.lt ge268
    have E269 := E264.keep K268
    have V270 := V265.keep K268 nin0
    have E271 := Er263.keep K268
    have E272 := Es263.keep K268
    have F273 := Fr263.keep K268 nin0
    have V274 := Vs263.keep K268 nin0
    have Z268 : n0 ≤ T268.heap.size := Nat.le_trans Z263 K268.1
    have N268 := Fr.app N266 Nq268
    obtain ⟨cl275, Ar275, q275, S275, M275, H275, U275⟩ := id Vr268
    obtain ⟨_, _, ⟨T276, uL276, uk276, un276⟩, -, X276, ⟨Lc276, hQ276, ul276, uy276, uz276⟩, st276⟩ := Jvm.LawKit.callS X268 hx (y := (⟨"com/example/cicada/cicada/core/PayloadOfPinLaw", "same", "([BIBBBB)Z"⟩ : MethodName)) hown (mvT hZ (hw _ (List.mem_of_getElem? (i := 35) rfl))) (mvT hZ (hw _ (List.mem_of_getElem? (i := 36) rfl))) (mvT hZ (hw _ (List.mem_of_getElem? (i := 37) rfl))) (mvT hZ (hw _ (List.mem_of_getElem? (i := 38) rfl))) (by decide) (backOf (W := 0) (rm5 l Z a0 hw [] r268 cl275 (fun i => ([ev0, ev1, ev2, ev3] : List Int32).getD i 0) (4 : Int32) (4 : Int32) ev0 ev1 ev2 ev3 T268.heap n0 Z268 Ar275 S275 M275 (own_has (xs := ([ev0, ev1, ev2, ev3] : List Int32)) H275 S275)) hZ (hw _ (List.mem_of_getElem? (i := 38) rfl)) (hw _ (List.mem_of_getElem? (i := 37) rfl)) (by decide) (by decide)) (g := (mkF m 123 #[.val (.int p1), .val (.int p2), .val (.int p3), .val (.int p4), .val (.int p5), .val (.int (4 : Int32)), .val (.int ev0), .val (.int ev1), .val (.int ev2), .val (.int ev3), .val (.ref a241), .val (.ref r263), .val (.ref r268), .unset] [(.int ev3), (.int ev2), (.int ev1), (.int ev0), (.int (4 : Int32)), (.ref r268)])) rfl (by rw [hml]; rfl) (argsL := [(.ref r268), (.int (4 : Int32)), (.int ev0), (.int ev1), (.int ev2), (.int ev3)]) (rest := []) (lenOf pd__28_5bBIBBBB_29Z rfl) rfl (by show 2 * 0 + _ ≤ _; exact Nat.le_of_eq rfl) (hb hby at_123) (fun _ _ => ⟨rfl, rfl, (by decide : 4 + 0 ≤ _), (by decide : 13 + 0 ≤ _)⟩)
    dsimp only [Pt.U, Pt.locs, Pt.cells, Pt.slots] at X276 ul276 uy276 uz276 st276 hQ276
    subst ul276 uy276 uz276
    obtain ⟨rfl, Nq276, e276⟩ := hQ276
    have N276 := Fr.app N268 Nq276
    have hc126_277 : ¬ ((own_same_0 (fun i => ([ev0, ev1, ev2, ev3] : List Int32).getD i 0) (4 : Int32) (4 : Int32) ev0 ev1 ev2 ev3) = (0 : Int32)) := by simp [own_same_0, own_same_27, own_same_41, own_same_56]
    have hc133_278 : (0 : Int32) < (4 : Int32) := (by decide)
    obtain ⟨cl279, Ar279, q279, S279, M279, H279, U279⟩ := id V270
    obtain ⟨T280, h280, X280, e280, W280, st280⟩ := stB X276 hx hZ e276 Ar279 (j := (0 : Int32)) (by rw [S279]; decide) (g := (mkF m 144 #[.val (.int p1), .val (.int p2), .val (.int p3), .val (.int p4), .val (.int p5), .val (.int (4 : Int32)), .val (.int ev0), .val (.int ev1), .val (.int ev2), .val (.int ev3), .val (.ref a241), .val (.ref r263), .val (.ref r268), .unset] [(.int ((ev0 ^^^ (-1 : Int32)).toInt8.toInt32)), (.int (0 : Int32)), (.ref a241)])) rfl rfl (hb hby at_144)
    have N280 := Fr.snoc X280 N276 lo241
    have V281 : Arv Z h280 a241 k241 .byte (4 : Int32) [(.int (nar .byte ((ev0 ^^^ (-1 : Int32)).toInt8.toInt32))), (.int ev1), (.int ev2), (.int ev3)] (.int (0 : Int32)) := Arv.set Ar279 q279 S279 M279 H279 U279 (fits_nar_byte _) W280 0 rfl (by show 0 < 4; decide)
    have E282 := E269.wr W280
    have E283 := E271.wr W280
    have E284 := E272.wr W280
    have F285 := F273.other W280 (Or.inl (Nat.ne_of_gt lr263_a241))
    have V286 := V274.other W280 (Nat.ne_of_gt ls263_a241)
    have E287 := Er268.wr W280
    have V288 := Vr268.other W280 (Nat.ne_of_gt lr268_a241)
    have Z280 : n0 ≤ h280.size := by rw [W280.size]; exact Z268
    have hc148_289 : (1 : Int32) < (4 : Int32) := (by decide)
    obtain ⟨cl290, Ar290, q290, S290, M290, H290, U290⟩ := id V281
    obtain ⟨T291, h291, X291, e291, W291, st291⟩ := stB X280 hx hZ e280 Ar290 (j := (1 : Int32)) (by rw [S290]; decide) (g := (mkF m 159 #[.val (.int p1), .val (.int p2), .val (.int p3), .val (.int p4), .val (.int p5), .val (.int (4 : Int32)), .val (.int ev0), .val (.int ev1), .val (.int ev2), .val (.int ev3), .val (.ref a241), .val (.ref r263), .val (.ref r268), .unset] [(.int ((ev1 ^^^ (-1 : Int32)).toInt8.toInt32)), (.int (1 : Int32)), (.ref a241)])) rfl rfl (hb hby at_159)
    have N291 := Fr.snoc X291 N280 lo241
    have V292 : Arv Z h291 a241 k241 .byte (4 : Int32) [(.int (nar .byte ((ev0 ^^^ (-1 : Int32)).toInt8.toInt32))), (.int (nar .byte ((ev1 ^^^ (-1 : Int32)).toInt8.toInt32))), (.int ev2), (.int ev3)] (.int (0 : Int32)) := Arv.set Ar290 q290 S290 M290 H290 U290 (fits_nar_byte _) W291 1 rfl (by show 1 < 4; decide)
    have E293 := E282.wr W291
    have E294 := E283.wr W291
    have E295 := E284.wr W291
    have F296 := F285.other W291 (Or.inl (Nat.ne_of_gt lr263_a241))
    have V297 := V286.other W291 (Nat.ne_of_gt ls263_a241)
    have E298 := E287.wr W291
    have V299 := V288.other W291 (Nat.ne_of_gt lr268_a241)
    have Z291 : n0 ≤ h291.size := by rw [W291.size]; exact Z280
    have hc163_300 : (2 : Int32) < (4 : Int32) := (by decide)
    obtain ⟨cl301, Ar301, q301, S301, M301, H301, U301⟩ := id V292
    obtain ⟨T302, h302, X302, e302, W302, st302⟩ := stB X291 hx hZ e291 Ar301 (j := (2 : Int32)) (by rw [S301]; decide) (g := (mkF m 174 #[.val (.int p1), .val (.int p2), .val (.int p3), .val (.int p4), .val (.int p5), .val (.int (4 : Int32)), .val (.int ev0), .val (.int ev1), .val (.int ev2), .val (.int ev3), .val (.ref a241), .val (.ref r263), .val (.ref r268), .unset] [(.int ((ev2 ^^^ (-1 : Int32)).toInt8.toInt32)), (.int (2 : Int32)), (.ref a241)])) rfl rfl (hb hby at_174)
    have N302 := Fr.snoc X302 N291 lo241
    have V303 : Arv Z h302 a241 k241 .byte (4 : Int32) [(.int (nar .byte ((ev0 ^^^ (-1 : Int32)).toInt8.toInt32))), (.int (nar .byte ((ev1 ^^^ (-1 : Int32)).toInt8.toInt32))), (.int (nar .byte ((ev2 ^^^ (-1 : Int32)).toInt8.toInt32))), (.int ev3)] (.int (0 : Int32)) := Arv.set Ar301 q301 S301 M301 H301 U301 (fits_nar_byte _) W302 2 rfl (by show 2 < 4; decide)
    have E304 := E293.wr W302
    have E305 := E294.wr W302
    have E306 := E295.wr W302
    have F307 := F296.other W302 (Or.inl (Nat.ne_of_gt lr263_a241))
    have V308 := V297.other W302 (Nat.ne_of_gt ls263_a241)
    have E309 := E298.wr W302
    have V310 := V299.other W302 (Nat.ne_of_gt lr268_a241)
    have Z302 : n0 ≤ h302.size := by rw [W302.size]; exact Z291
    have hc178_311 : (3 : Int32) < (4 : Int32) := (by decide)
    obtain ⟨cl312, Ar312, q312, S312, M312, H312, U312⟩ := id V303
    obtain ⟨T313, h313, X313, e313, W313, st313⟩ := stB X302 hx hZ e302 Ar312 (j := (3 : Int32)) (by rw [S312]; decide) (g := (mkF m 189 #[.val (.int p1), .val (.int p2), .val (.int p3), .val (.int p4), .val (.int p5), .val (.int (4 : Int32)), .val (.int ev0), .val (.int ev1), .val (.int ev2), .val (.int ev3), .val (.ref a241), .val (.ref r263), .val (.ref r268), .unset] [(.int ((ev3 ^^^ (-1 : Int32)).toInt8.toInt32)), (.int (3 : Int32)), (.ref a241)])) rfl rfl (hb hby at_189)
    have N313 := Fr.snoc X313 N302 lo241
    have V314 : Arv Z h313 a241 k241 .byte (4 : Int32) [(.int (nar .byte ((ev0 ^^^ (-1 : Int32)).toInt8.toInt32))), (.int (nar .byte ((ev1 ^^^ (-1 : Int32)).toInt8.toInt32))), (.int (nar .byte ((ev2 ^^^ (-1 : Int32)).toInt8.toInt32))), (.int (nar .byte ((ev3 ^^^ (-1 : Int32)).toInt8.toInt32)))] (.int (0 : Int32)) := Arv.set Ar312 q312 S312 M312 H312 U312 (fits_nar_byte _) W313 3 rfl (by show 3 < 4; decide)
    have E315 := E304.wr W313
    have E316 := E305.wr W313
    have E317 := E306.wr W313
    have F318 := F307.other W313 (Or.inl (Nat.ne_of_gt lr263_a241))
    have V319 := V308.other W313 (Nat.ne_of_gt ls263_a241)
    have E320 := E309.wr W313
    have V321 := V310.other W313 (Nat.ne_of_gt lr268_a241)
    have Z313 : n0 ≤ h313.size := by rw [W313.size]; exact Z302
    obtain ⟨cq322, kq322, qa322, qb322, qc322⟩ := isOf hZ e313 E316
    obtain ⟨_, _, ⟨T322, uL322, uk322, un322⟩, -, X322, ⟨Lc322, hQ322, ul322, uy322, uz322⟩, st322⟩ := X313.virtualBack hx (y := (⟨"com/example/cicada/cicada/core/Payload", "bytes", "()[B"⟩ : MethodName)) (z := (⟨"com/example/cicada/cicada/core/Payload", "bytes", "()[B"⟩ : MethodName)) hown (mvT hZ (hw _ (List.mem_of_getElem? (i := 30) rfl))) (mvT hZ (hw _ (List.mem_of_getElem? (i := 31) rfl))) (notFace_of_selects (args := #[]) (mvT hZ (hw _ (List.mem_of_getElem? (i := 33) rfl)))) (mvT hZ (hw _ (List.mem_of_getElem? (i := 33) rfl))) (mvT hZ (hw _ (List.mem_of_getElem? (i := 32) rfl))) (by decide) (backOf (W := 0) (rm4 l Z a0 hw [] r263 s263 k241 (4 : Int32) [(.int ev0), (.int ev1), (.int ev2), (.int ev3)] h313 n0 Z313 F318 V319 E317 (by decide)) hZ (hw _ (List.mem_of_getElem? (i := 34) rfl)) (hw _ (List.mem_of_getElem? (i := 4) rfl)) (by decide) (by decide)) qa322 qc322 (g := (mkF m 192 #[.val (.int p1), .val (.int p2), .val (.int p3), .val (.int p4), .val (.int p5), .val (.int (4 : Int32)), .val (.int ev0), .val (.int ev1), .val (.int ev2), .val (.int ev3), .val (.ref a241), .val (.ref r263), .val (.ref r268), .unset] [(.ref r263)])) rfl (by rw [hml]; rfl) (Steps.refl _) (argsL := []) (rest := []) (lenOf pd__28_29_5bB rfl) rfl (by show 2 * 0 + _ ≤ _; exact Nat.le_of_eq rfl) (hb hby at_192) (fun _ _ => ⟨rfl, e313, (by decide : 4 + 1 ≤ _), (by decide : 13 + 4 ≤ _)⟩)
    dsimp only [Pt.U, Pt.locs, Pt.cells, Pt.slots] at X322 ul322 uy322 uz322 st322 hQ322
    subst ul322 uy322 uz322
    obtain ⟨r322, rfl, Nq322, K322, ge322, Er322, Vr322⟩ := hQ322
    have lr322_a241 : a241 < r322 := Nat.lt_of_lt_of_le E315.lt ge322
    have lr322_r263 : r263 < r322 := Nat.lt_of_lt_of_le E316.lt ge322
    have lr322_s263 : s263 < r322 := Nat.lt_of_lt_of_le E317.lt ge322
    have lr322_r268 : r268 < r322 := Nat.lt_of_lt_of_le E320.lt ge322
    have E323 := E315.keep K322
    have V324 := V314.keep K322 nin0
    have E325 := E316.keep K322
    have E326 := E317.keep K322
    have F327 := F318.keep K322 nin0
    have V328 := V319.keep K322 nin0
    have E329 := E320.keep K322
    have V330 := V321.keep K322 nin0
    have Z322 : n0 ≤ T322.heap.size := Nat.le_trans Z313 K322.1
    have N322 := Fr.app N313 Nq322
    obtain ⟨cl331, Ar331, q331, S331, M331, H331, U331⟩ := id Vr322
    obtain ⟨_, _, ⟨T332, uL332, uk332, un332⟩, -, X332, ⟨Lc332, hQ332, ul332, uy332, uz332⟩, st332⟩ := Jvm.LawKit.callS X322 hx (y := (⟨"com/example/cicada/cicada/core/PayloadOfPinLaw", "same", "([BIBBBB)Z"⟩ : MethodName)) hown (mvT hZ (hw _ (List.mem_of_getElem? (i := 35) rfl))) (mvT hZ (hw _ (List.mem_of_getElem? (i := 36) rfl))) (mvT hZ (hw _ (List.mem_of_getElem? (i := 37) rfl))) (mvT hZ (hw _ (List.mem_of_getElem? (i := 38) rfl))) (by decide) (backOf (W := 0) (rm5 l Z a0 hw [] r322 cl331 (fun i => ([ev0, ev1, ev2, ev3] : List Int32).getD i 0) (4 : Int32) (4 : Int32) ev0 ev1 ev2 ev3 T322.heap n0 Z322 Ar331 S331 M331 (own_has (xs := ([ev0, ev1, ev2, ev3] : List Int32)) H331 S331)) hZ (hw _ (List.mem_of_getElem? (i := 38) rfl)) (hw _ (List.mem_of_getElem? (i := 37) rfl)) (by decide) (by decide)) (g := (mkF m 209 #[.val (.int p1), .val (.int p2), .val (.int p3), .val (.int p4), .val (.int p5), .val (.int (4 : Int32)), .val (.int ev0), .val (.int ev1), .val (.int ev2), .val (.int ev3), .val (.ref a241), .val (.ref r263), .val (.ref r268), .val (.ref r322)] [(.int ev3), (.int ev2), (.int ev1), (.int ev0), (.int (4 : Int32)), (.ref r322)])) rfl (by rw [hml]; rfl) (argsL := [(.ref r322), (.int (4 : Int32)), (.int ev0), (.int ev1), (.int ev2), (.int ev3)]) (rest := []) (lenOf pd__28_5bBIBBBB_29Z rfl) rfl (by show 2 * 0 + _ ≤ _; exact Nat.le_of_eq rfl) (hb hby at_209) (fun _ _ => ⟨rfl, rfl, (by decide : 5 + 0 ≤ _), (by decide : 17 + 0 ≤ _)⟩)
    dsimp only [Pt.U, Pt.locs, Pt.cells, Pt.slots] at X332 ul332 uy332 uz332 st332 hQ332
    subst ul332 uy332 uz332
    obtain ⟨rfl, Nq332, e332⟩ := hQ332
    have N332 := Fr.app N322 Nq332
    have hc212_333 : ¬ ((own_same_0 (fun i => ([ev0, ev1, ev2, ev3] : List Int32).getD i 0) (4 : Int32) (4 : Int32) ev0 ev1 ev2 ev3) = (0 : Int32)) := by simp [own_same_0, own_same_27, own_same_41, own_same_56]
    obtain ⟨cq334, kq334, qa334, qb334, qc334⟩ := isOf hZ e332 E325
    obtain ⟨_, _, ⟨T334, uL334, uk334, un334⟩, -, X334, ⟨Lc334, hQ334, ul334, uy334, uz334⟩, st334⟩ := X332.virtualBack hx (y := (⟨"com/example/cicada/cicada/core/Payload", "size", "()I"⟩ : MethodName)) (z := (⟨"com/example/cicada/cicada/core/Payload", "size", "()I"⟩ : MethodName)) hown (mvT hZ (hw _ (List.mem_of_getElem? (i := 25) rfl))) (mvT hZ (hw _ (List.mem_of_getElem? (i := 26) rfl))) (notFace_of_selects (args := #[]) (mvT hZ (hw _ (List.mem_of_getElem? (i := 28) rfl)))) (mvT hZ (hw _ (List.mem_of_getElem? (i := 28) rfl))) (mvT hZ (hw _ (List.mem_of_getElem? (i := 27) rfl))) (by decide) (backOf (W := 0) (rm3 l Z a0 hw [] r263 s263 k241 (4 : Int32) [(.int ev0), (.int ev1), (.int ev2), (.int ev3)] T322.heap n0 Z322 F327 V328) hZ (hw _ (List.mem_of_getElem? (i := 29) rfl)) (hw _ (List.mem_of_getElem? (i := 4) rfl)) (by decide) (by decide)) qa334 qc334 (g := (mkF m 219 #[.val (.int p1), .val (.int p2), .val (.int p3), .val (.int p4), .val (.int p5), .val (.int (4 : Int32)), .val (.int ev0), .val (.int ev1), .val (.int ev2), .val (.int ev3), .val (.ref a241), .val (.ref r263), .val (.ref r268), .val (.ref r322)] [(.ref r263)])) rfl (by rw [hml]; rfl) (Steps.refl _) (argsL := []) (rest := []) (lenOf pd__28_29I rfl) rfl (by show 2 * 0 + _ ≤ _; exact Nat.le_of_eq rfl) (hb hby at_219) (fun _ _ => ⟨rfl, e332, (by decide : 5 + 0 ≤ _), (by decide : 17 + 0 ≤ _)⟩)
    dsimp only [Pt.U, Pt.locs, Pt.cells, Pt.slots] at X334 ul334 uy334 uz334 st334 hQ334
    subst ul334 uy334 uz334
    obtain ⟨rfl, Nq334, e334⟩ := hQ334
    have N334 := Fr.app N332 Nq334
    have hc224_335 : (4 : Int32) = (4 : Int32) := (by decide)
    refine own_end X334 Bd.notSynchronized (v := some (.int (1 : Int32))) (fun h => by rw [Bd.returns] at h; cases h) (fun fs hr => ?_) e334 ?_ (by decide) (by decide)
    · show Steps p.tables e below (s₁.setTop (mkF m 25 #[.val (.int p1), .val (.int p2), .val (.int p3), .val (.int p4), .val (.int p5), .val (.int (4 : Int32)), .val (.int ev0), .val (.int ev1), .val (.int ev2), .val (.int ev3), .unset, .unset, .unset, .unset] [])) _
      refine XS.iload X0.here hx rfl (hb hby at_25) rfl ?_
      show Steps p.tables e below (s₁.setTop (mkF m 27 #[.val (.int p1), .val (.int p2), .val (.int p3), .val (.int p4), .val (.int p5), .val (.int (4 : Int32)), .val (.int ev0), .val (.int ev1), .val (.int ev2), .val (.int ev3), .unset, .unset, .unset, .unset] [(.int (4 : Int32))])) _
      refine st241 _ ?_
      show Steps p.tables e below (T241.setTop (mkF m 29 #[.val (.int p1), .val (.int p2), .val (.int p3), .val (.int p4), .val (.int p5), .val (.int (4 : Int32)), .val (.int ev0), .val (.int ev1), .val (.int ev2), .val (.int ev3), .unset, .unset, .unset, .unset] [(.ref a241)])) _
      refine XS.astore X241.here hx rfl (hb hby at_29) rfl rfl (l' := #[.val (.int p1), .val (.int p2), .val (.int p3), .val (.int p4), .val (.int p5), .val (.int (4 : Int32)), .val (.int ev0), .val (.int ev1), .val (.int ev2), .val (.int ev3), .val (.ref a241), .unset, .unset, .unset]) rfl ?_
      show Steps p.tables e below (T241.setTop (mkF m 31 #[.val (.int p1), .val (.int p2), .val (.int p3), .val (.int p4), .val (.int p5), .val (.int (4 : Int32)), .val (.int ev0), .val (.int ev1), .val (.int ev2), .val (.int ev3), .val (.ref a241), .unset, .unset, .unset] [])) _
      refine XS.iload X241.here hx rfl (hb hby at_31) rfl ?_
      show Steps p.tables e below (T241.setTop (mkF m 33 #[.val (.int p1), .val (.int p2), .val (.int p3), .val (.int p4), .val (.int p5), .val (.int (4 : Int32)), .val (.int ev0), .val (.int ev1), .val (.int ev2), .val (.int ev3), .val (.ref a241), .unset, .unset, .unset] [(.int (4 : Int32))])) _
      refine XS.ifNo X241.here hx rfl (hb hby at_33) rfl ((if0 _ _).trans (tlt hc33_243).2.2.2) ?_
      show Steps p.tables e below (T241.setTop (mkF m 36 #[.val (.int p1), .val (.int p2), .val (.int p3), .val (.int p4), .val (.int p5), .val (.int (4 : Int32)), .val (.int ev0), .val (.int ev1), .val (.int ev2), .val (.int ev3), .val (.ref a241), .unset, .unset, .unset] [])) _
      refine XS.aload X241.here hx rfl (hb hby at_36) rfl rfl ?_
      show Steps p.tables e below (T241.setTop (mkF m 38 #[.val (.int p1), .val (.int p2), .val (.int p3), .val (.int p4), .val (.int p5), .val (.int (4 : Int32)), .val (.int ev0), .val (.int ev1), .val (.int ev2), .val (.int ev3), .val (.ref a241), .unset, .unset, .unset] [(.ref a241)])) _
      refine XS.iconst X241.here hx rfl (hb hby at_38) ?_
      show Steps p.tables e below (T241.setTop (mkF m 39 #[.val (.int p1), .val (.int p2), .val (.int p3), .val (.int p4), .val (.int p5), .val (.int (4 : Int32)), .val (.int ev0), .val (.int ev1), .val (.int ev2), .val (.int ev3), .val (.ref a241), .unset, .unset, .unset] [(.int (0 : Int32)), (.ref a241)])) _
      refine XS.iload X241.here hx rfl (hb hby at_39) rfl ?_
      show Steps p.tables e below (T241.setTop (mkF m 41 #[.val (.int p1), .val (.int p2), .val (.int p3), .val (.int p4), .val (.int p5), .val (.int (4 : Int32)), .val (.int ev0), .val (.int ev1), .val (.int ev2), .val (.int ev3), .val (.ref a241), .unset, .unset, .unset] [(.int ev0), (.int (0 : Int32)), (.ref a241)])) _
      refine st245 _ ?_
      show Steps p.tables e below (T245.setTop (mkF m 42 #[.val (.int p1), .val (.int p2), .val (.int p3), .val (.int p4), .val (.int p5), .val (.int (4 : Int32)), .val (.int ev0), .val (.int ev1), .val (.int ev2), .val (.int ev3), .val (.ref a241), .unset, .unset, .unset] [])) _
      refine XS.iload X245.here hx rfl (hb hby at_42) rfl ?_
      show Steps p.tables e below (T245.setTop (mkF m 44 #[.val (.int p1), .val (.int p2), .val (.int p3), .val (.int p4), .val (.int p5), .val (.int (4 : Int32)), .val (.int ev0), .val (.int ev1), .val (.int ev2), .val (.int ev3), .val (.ref a241), .unset, .unset, .unset] [(.int (4 : Int32))])) _
      refine XS.iconst X245.here hx rfl (hb hby at_44) ?_
      show Steps p.tables e below (T245.setTop (mkF m 45 #[.val (.int p1), .val (.int p2), .val (.int p3), .val (.int p4), .val (.int p5), .val (.int (4 : Int32)), .val (.int ev0), .val (.int ev1), .val (.int ev2), .val (.int ev3), .val (.ref a241), .unset, .unset, .unset] [(.int (1 : Int32)), (.int (4 : Int32))])) _
      refine XS.icmpNo X245.here hx rfl (hb hby at_45) rfl (tlt hc45_248).2.2.2 ?_
      show Steps p.tables e below (T245.setTop (mkF m 48 #[.val (.int p1), .val (.int p2), .val (.int p3), .val (.int p4), .val (.int p5), .val (.int (4 : Int32)), .val (.int ev0), .val (.int ev1), .val (.int ev2), .val (.int ev3), .val (.ref a241), .unset, .unset, .unset] [])) _
      refine XS.aload X245.here hx rfl (hb hby at_48) rfl rfl ?_
      show Steps p.tables e below (T245.setTop (mkF m 50 #[.val (.int p1), .val (.int p2), .val (.int p3), .val (.int p4), .val (.int p5), .val (.int (4 : Int32)), .val (.int ev0), .val (.int ev1), .val (.int ev2), .val (.int ev3), .val (.ref a241), .unset, .unset, .unset] [(.ref a241)])) _
      refine XS.iconst X245.here hx rfl (hb hby at_50) ?_
      show Steps p.tables e below (T245.setTop (mkF m 51 #[.val (.int p1), .val (.int p2), .val (.int p3), .val (.int p4), .val (.int p5), .val (.int (4 : Int32)), .val (.int ev0), .val (.int ev1), .val (.int ev2), .val (.int ev3), .val (.ref a241), .unset, .unset, .unset] [(.int (1 : Int32)), (.ref a241)])) _
      refine XS.iload X245.here hx rfl (hb hby at_51) rfl ?_
      show Steps p.tables e below (T245.setTop (mkF m 53 #[.val (.int p1), .val (.int p2), .val (.int p3), .val (.int p4), .val (.int p5), .val (.int (4 : Int32)), .val (.int ev0), .val (.int ev1), .val (.int ev2), .val (.int ev3), .val (.ref a241), .unset, .unset, .unset] [(.int ev1), (.int (1 : Int32)), (.ref a241)])) _
      refine st250 _ ?_
      show Steps p.tables e below (T250.setTop (mkF m 54 #[.val (.int p1), .val (.int p2), .val (.int p3), .val (.int p4), .val (.int p5), .val (.int (4 : Int32)), .val (.int ev0), .val (.int ev1), .val (.int ev2), .val (.int ev3), .val (.ref a241), .unset, .unset, .unset] [])) _
      refine XS.iload X250.here hx rfl (hb hby at_54) rfl ?_
      show Steps p.tables e below (T250.setTop (mkF m 56 #[.val (.int p1), .val (.int p2), .val (.int p3), .val (.int p4), .val (.int p5), .val (.int (4 : Int32)), .val (.int ev0), .val (.int ev1), .val (.int ev2), .val (.int ev3), .val (.ref a241), .unset, .unset, .unset] [(.int (4 : Int32))])) _
      refine XS.iconst X250.here hx rfl (hb hby at_56) ?_
      show Steps p.tables e below (T250.setTop (mkF m 57 #[.val (.int p1), .val (.int p2), .val (.int p3), .val (.int p4), .val (.int p5), .val (.int (4 : Int32)), .val (.int ev0), .val (.int ev1), .val (.int ev2), .val (.int ev3), .val (.ref a241), .unset, .unset, .unset] [(.int (2 : Int32)), (.int (4 : Int32))])) _
      refine XS.icmpNo X250.here hx rfl (hb hby at_57) rfl (tlt hc57_253).2.2.2 ?_
      show Steps p.tables e below (T250.setTop (mkF m 60 #[.val (.int p1), .val (.int p2), .val (.int p3), .val (.int p4), .val (.int p5), .val (.int (4 : Int32)), .val (.int ev0), .val (.int ev1), .val (.int ev2), .val (.int ev3), .val (.ref a241), .unset, .unset, .unset] [])) _
      refine XS.aload X250.here hx rfl (hb hby at_60) rfl rfl ?_
      show Steps p.tables e below (T250.setTop (mkF m 62 #[.val (.int p1), .val (.int p2), .val (.int p3), .val (.int p4), .val (.int p5), .val (.int (4 : Int32)), .val (.int ev0), .val (.int ev1), .val (.int ev2), .val (.int ev3), .val (.ref a241), .unset, .unset, .unset] [(.ref a241)])) _
      refine XS.iconst X250.here hx rfl (hb hby at_62) ?_
      show Steps p.tables e below (T250.setTop (mkF m 63 #[.val (.int p1), .val (.int p2), .val (.int p3), .val (.int p4), .val (.int p5), .val (.int (4 : Int32)), .val (.int ev0), .val (.int ev1), .val (.int ev2), .val (.int ev3), .val (.ref a241), .unset, .unset, .unset] [(.int (2 : Int32)), (.ref a241)])) _
      refine XS.iload X250.here hx rfl (hb hby at_63) rfl ?_
      show Steps p.tables e below (T250.setTop (mkF m 65 #[.val (.int p1), .val (.int p2), .val (.int p3), .val (.int p4), .val (.int p5), .val (.int (4 : Int32)), .val (.int ev0), .val (.int ev1), .val (.int ev2), .val (.int ev3), .val (.ref a241), .unset, .unset, .unset] [(.int ev2), (.int (2 : Int32)), (.ref a241)])) _
      refine st255 _ ?_
      show Steps p.tables e below (T255.setTop (mkF m 66 #[.val (.int p1), .val (.int p2), .val (.int p3), .val (.int p4), .val (.int p5), .val (.int (4 : Int32)), .val (.int ev0), .val (.int ev1), .val (.int ev2), .val (.int ev3), .val (.ref a241), .unset, .unset, .unset] [])) _
      refine XS.iload X255.here hx rfl (hb hby at_66) rfl ?_
      show Steps p.tables e below (T255.setTop (mkF m 68 #[.val (.int p1), .val (.int p2), .val (.int p3), .val (.int p4), .val (.int p5), .val (.int (4 : Int32)), .val (.int ev0), .val (.int ev1), .val (.int ev2), .val (.int ev3), .val (.ref a241), .unset, .unset, .unset] [(.int (4 : Int32))])) _
      refine XS.iconst X255.here hx rfl (hb hby at_68) ?_
      show Steps p.tables e below (T255.setTop (mkF m 69 #[.val (.int p1), .val (.int p2), .val (.int p3), .val (.int p4), .val (.int p5), .val (.int (4 : Int32)), .val (.int ev0), .val (.int ev1), .val (.int ev2), .val (.int ev3), .val (.ref a241), .unset, .unset, .unset] [(.int (3 : Int32)), (.int (4 : Int32))])) _
      refine XS.icmpNo X255.here hx rfl (hb hby at_69) rfl (tlt hc69_258).2.2.2 ?_
      show Steps p.tables e below (T255.setTop (mkF m 72 #[.val (.int p1), .val (.int p2), .val (.int p3), .val (.int p4), .val (.int p5), .val (.int (4 : Int32)), .val (.int ev0), .val (.int ev1), .val (.int ev2), .val (.int ev3), .val (.ref a241), .unset, .unset, .unset] [])) _
      refine XS.aload X255.here hx rfl (hb hby at_72) rfl rfl ?_
      show Steps p.tables e below (T255.setTop (mkF m 74 #[.val (.int p1), .val (.int p2), .val (.int p3), .val (.int p4), .val (.int p5), .val (.int (4 : Int32)), .val (.int ev0), .val (.int ev1), .val (.int ev2), .val (.int ev3), .val (.ref a241), .unset, .unset, .unset] [(.ref a241)])) _
      refine XS.iconst X255.here hx rfl (hb hby at_74) ?_
      show Steps p.tables e below (T255.setTop (mkF m 75 #[.val (.int p1), .val (.int p2), .val (.int p3), .val (.int p4), .val (.int p5), .val (.int (4 : Int32)), .val (.int ev0), .val (.int ev1), .val (.int ev2), .val (.int ev3), .val (.ref a241), .unset, .unset, .unset] [(.int (3 : Int32)), (.ref a241)])) _
      refine XS.iload X255.here hx rfl (hb hby at_75) rfl ?_
      show Steps p.tables e below (T255.setTop (mkF m 77 #[.val (.int p1), .val (.int p2), .val (.int p3), .val (.int p4), .val (.int p5), .val (.int (4 : Int32)), .val (.int ev0), .val (.int ev1), .val (.int ev2), .val (.int ev3), .val (.ref a241), .unset, .unset, .unset] [(.int ev3), (.int (3 : Int32)), (.ref a241)])) _
      refine st260 _ ?_
      show Steps p.tables e below (T260.setTop (mkF m 78 #[.val (.int p1), .val (.int p2), .val (.int p3), .val (.int p4), .val (.int p5), .val (.int (4 : Int32)), .val (.int ev0), .val (.int ev1), .val (.int ev2), .val (.int ev3), .val (.ref a241), .unset, .unset, .unset] [])) _
      refine XS.aload X260.here hx rfl (hb hby at_78) rfl rfl ?_
      show Steps p.tables e below (T260.setTop (mkF m 80 #[.val (.int p1), .val (.int p2), .val (.int p3), .val (.int p4), .val (.int p5), .val (.int (4 : Int32)), .val (.int ev0), .val (.int ev1), .val (.int ev2), .val (.int ev3), .val (.ref a241), .unset, .unset, .unset] [(.ref a241)])) _
      refine st263 _ ?_
      show Steps p.tables e below (T263.setTop (mkF m 83 #[.val (.int p1), .val (.int p2), .val (.int p3), .val (.int p4), .val (.int p5), .val (.int (4 : Int32)), .val (.int ev0), .val (.int ev1), .val (.int ev2), .val (.int ev3), .val (.ref a241), .unset, .unset, .unset] [(.ref r263)])) _
      refine XS.astore X263.here hx rfl (hb hby at_83) rfl rfl (l' := #[.val (.int p1), .val (.int p2), .val (.int p3), .val (.int p4), .val (.int p5), .val (.int (4 : Int32)), .val (.int ev0), .val (.int ev1), .val (.int ev2), .val (.int ev3), .val (.ref a241), .val (.ref r263), .unset, .unset]) rfl ?_
      show Steps p.tables e below (T263.setTop (mkF m 85 #[.val (.int p1), .val (.int p2), .val (.int p3), .val (.int p4), .val (.int p5), .val (.int (4 : Int32)), .val (.int ev0), .val (.int ev1), .val (.int ev2), .val (.int ev3), .val (.ref a241), .val (.ref r263), .unset, .unset] [])) _
      refine XS.aload X263.here hx rfl (hb hby at_85) rfl rfl ?_
      show Steps p.tables e below (T263.setTop (mkF m 87 #[.val (.int p1), .val (.int p2), .val (.int p3), .val (.int p4), .val (.int p5), .val (.int (4 : Int32)), .val (.int ev0), .val (.int ev1), .val (.int ev2), .val (.int ev3), .val (.ref a241), .val (.ref r263), .unset, .unset] [(.ref r263)])) _
      refine XS.ifnonnullYes X263.here hx rfl (pc0 := 87) (pc' := 92) rfl (hb hby at_87) rfl (by decide) (by decide) ?_
      show Steps p.tables e below (T263.setTop (mkF m 92 #[.val (.int p1), .val (.int p2), .val (.int p3), .val (.int p4), .val (.int p5), .val (.int (4 : Int32)), .val (.int ev0), .val (.int ev1), .val (.int ev2), .val (.int ev3), .val (.ref a241), .val (.ref r263), .unset, .unset] [])) _
      refine XS.aload X263.here hx rfl (hb hby at_92) rfl rfl ?_
      show Steps p.tables e below (T263.setTop (mkF m 94 #[.val (.int p1), .val (.int p2), .val (.int p3), .val (.int p4), .val (.int p5), .val (.int (4 : Int32)), .val (.int ev0), .val (.int ev1), .val (.int ev2), .val (.int ev3), .val (.ref a241), .val (.ref r263), .unset, .unset] [(.ref r263)])) _
      refine st266.trans ?_
      show Steps p.tables e below (T266.setTop (mkF m 97 #[.val (.int p1), .val (.int p2), .val (.int p3), .val (.int p4), .val (.int p5), .val (.int (4 : Int32)), .val (.int ev0), .val (.int ev1), .val (.int ev2), .val (.int ev3), .val (.ref a241), .val (.ref r263), .unset, .unset] [(.int (4 : Int32))])) _
      refine XS.iload X266.here hx rfl (hb hby at_97) rfl ?_
      show Steps p.tables e below (T266.setTop (mkF m 99 #[.val (.int p1), .val (.int p2), .val (.int p3), .val (.int p4), .val (.int p5), .val (.int (4 : Int32)), .val (.int ev0), .val (.int ev1), .val (.int ev2), .val (.int ev3), .val (.ref a241), .val (.ref r263), .unset, .unset] [(.int (4 : Int32)), (.int (4 : Int32))])) _
      refine XS.icmpYes X266.here hx rfl (pc0 := 99) (pc' := 104) rfl (hb hby at_99) rfl (teq hc99_267).1 (by decide) (by decide) ?_
      show Steps p.tables e below (T266.setTop (mkF m 104 #[.val (.int p1), .val (.int p2), .val (.int p3), .val (.int p4), .val (.int p5), .val (.int (4 : Int32)), .val (.int ev0), .val (.int ev1), .val (.int ev2), .val (.int ev3), .val (.ref a241), .val (.ref r263), .unset, .unset] [])) _
      refine XS.aload X266.here hx rfl (hb hby at_104) rfl rfl ?_
      show Steps p.tables e below (T266.setTop (mkF m 106 #[.val (.int p1), .val (.int p2), .val (.int p3), .val (.int p4), .val (.int p5), .val (.int (4 : Int32)), .val (.int ev0), .val (.int ev1), .val (.int ev2), .val (.int ev3), .val (.ref a241), .val (.ref r263), .unset, .unset] [(.ref r263)])) _
      refine st268.trans ?_
      show Steps p.tables e below (T268.setTop (mkF m 109 #[.val (.int p1), .val (.int p2), .val (.int p3), .val (.int p4), .val (.int p5), .val (.int (4 : Int32)), .val (.int ev0), .val (.int ev1), .val (.int ev2), .val (.int ev3), .val (.ref a241), .val (.ref r263), .unset, .unset] [(.ref r268)])) _
      refine XS.astore X268.here hx rfl (hb hby at_109) rfl rfl (l' := #[.val (.int p1), .val (.int p2), .val (.int p3), .val (.int p4), .val (.int p5), .val (.int (4 : Int32)), .val (.int ev0), .val (.int ev1), .val (.int ev2), .val (.int ev3), .val (.ref a241), .val (.ref r263), .val (.ref r268), .unset]) rfl ?_
      show Steps p.tables e below (T268.setTop (mkF m 111 #[.val (.int p1), .val (.int p2), .val (.int p3), .val (.int p4), .val (.int p5), .val (.int (4 : Int32)), .val (.int ev0), .val (.int ev1), .val (.int ev2), .val (.int ev3), .val (.ref a241), .val (.ref r263), .val (.ref r268), .unset] [])) _
      refine XS.aload X268.here hx rfl (hb hby at_111) rfl rfl ?_
      show Steps p.tables e below (T268.setTop (mkF m 113 #[.val (.int p1), .val (.int p2), .val (.int p3), .val (.int p4), .val (.int p5), .val (.int (4 : Int32)), .val (.int ev0), .val (.int ev1), .val (.int ev2), .val (.int ev3), .val (.ref a241), .val (.ref r263), .val (.ref r268), .unset] [(.ref r268)])) _
      refine XS.iload X268.here hx rfl (hb hby at_113) rfl ?_
      show Steps p.tables e below (T268.setTop (mkF m 115 #[.val (.int p1), .val (.int p2), .val (.int p3), .val (.int p4), .val (.int p5), .val (.int (4 : Int32)), .val (.int ev0), .val (.int ev1), .val (.int ev2), .val (.int ev3), .val (.ref a241), .val (.ref r263), .val (.ref r268), .unset] [(.int (4 : Int32)), (.ref r268)])) _
      refine XS.iload X268.here hx rfl (hb hby at_115) rfl ?_
      show Steps p.tables e below (T268.setTop (mkF m 117 #[.val (.int p1), .val (.int p2), .val (.int p3), .val (.int p4), .val (.int p5), .val (.int (4 : Int32)), .val (.int ev0), .val (.int ev1), .val (.int ev2), .val (.int ev3), .val (.ref a241), .val (.ref r263), .val (.ref r268), .unset] [(.int ev0), (.int (4 : Int32)), (.ref r268)])) _
      refine XS.iload X268.here hx rfl (hb hby at_117) rfl ?_
      show Steps p.tables e below (T268.setTop (mkF m 119 #[.val (.int p1), .val (.int p2), .val (.int p3), .val (.int p4), .val (.int p5), .val (.int (4 : Int32)), .val (.int ev0), .val (.int ev1), .val (.int ev2), .val (.int ev3), .val (.ref a241), .val (.ref r263), .val (.ref r268), .unset] [(.int ev1), (.int ev0), (.int (4 : Int32)), (.ref r268)])) _
      refine XS.iload X268.here hx rfl (hb hby at_119) rfl ?_
      show Steps p.tables e below (T268.setTop (mkF m 121 #[.val (.int p1), .val (.int p2), .val (.int p3), .val (.int p4), .val (.int p5), .val (.int (4 : Int32)), .val (.int ev0), .val (.int ev1), .val (.int ev2), .val (.int ev3), .val (.ref a241), .val (.ref r263), .val (.ref r268), .unset] [(.int ev2), (.int ev1), (.int ev0), (.int (4 : Int32)), (.ref r268)])) _
      refine XS.iload X268.here hx rfl (hb hby at_121) rfl ?_
      show Steps p.tables e below (T268.setTop (mkF m 123 #[.val (.int p1), .val (.int p2), .val (.int p3), .val (.int p4), .val (.int p5), .val (.int (4 : Int32)), .val (.int ev0), .val (.int ev1), .val (.int ev2), .val (.int ev3), .val (.ref a241), .val (.ref r263), .val (.ref r268), .unset] [(.int ev3), (.int ev2), (.int ev1), (.int ev0), (.int (4 : Int32)), (.ref r268)])) _
      refine st276 _ ?_
      show Steps p.tables e below (T276.setTop (mkF m 126 #[.val (.int p1), .val (.int p2), .val (.int p3), .val (.int p4), .val (.int p5), .val (.int (4 : Int32)), .val (.int ev0), .val (.int ev1), .val (.int ev2), .val (.int ev3), .val (.ref a241), .val (.ref r263), .val (.ref r268), .unset] [(.int (own_same_0 (fun i => ([ev0, ev1, ev2, ev3] : List Int32).getD i 0) (4 : Int32) (4 : Int32) ev0 ev1 ev2 ev3))])) _
      refine XS.ifYes X276.here hx rfl (pc0 := 126) (pc' := 131) rfl (hb hby at_126) rfl ((if0 _ _).trans (feq hc126_277).2) (by decide) (by decide) ?_
      show Steps p.tables e below (T276.setTop (mkF m 131 #[.val (.int p1), .val (.int p2), .val (.int p3), .val (.int p4), .val (.int p5), .val (.int (4 : Int32)), .val (.int ev0), .val (.int ev1), .val (.int ev2), .val (.int ev3), .val (.ref a241), .val (.ref r263), .val (.ref r268), .unset] [])) _
      refine XS.iload X276.here hx rfl (hb hby at_131) rfl ?_
      show Steps p.tables e below (T276.setTop (mkF m 133 #[.val (.int p1), .val (.int p2), .val (.int p3), .val (.int p4), .val (.int p5), .val (.int (4 : Int32)), .val (.int ev0), .val (.int ev1), .val (.int ev2), .val (.int ev3), .val (.ref a241), .val (.ref r263), .val (.ref r268), .unset] [(.int (4 : Int32))])) _
      refine XS.ifNo X276.here hx rfl (hb hby at_133) rfl ((if0 _ _).trans (tlt hc133_278).2.2.2) ?_
      show Steps p.tables e below (T276.setTop (mkF m 136 #[.val (.int p1), .val (.int p2), .val (.int p3), .val (.int p4), .val (.int p5), .val (.int (4 : Int32)), .val (.int ev0), .val (.int ev1), .val (.int ev2), .val (.int ev3), .val (.ref a241), .val (.ref r263), .val (.ref r268), .unset] [])) _
      refine XS.aload X276.here hx rfl (hb hby at_136) rfl rfl ?_
      show Steps p.tables e below (T276.setTop (mkF m 138 #[.val (.int p1), .val (.int p2), .val (.int p3), .val (.int p4), .val (.int p5), .val (.int (4 : Int32)), .val (.int ev0), .val (.int ev1), .val (.int ev2), .val (.int ev3), .val (.ref a241), .val (.ref r263), .val (.ref r268), .unset] [(.ref a241)])) _
      refine XS.iconst X276.here hx rfl (hb hby at_138) ?_
      show Steps p.tables e below (T276.setTop (mkF m 139 #[.val (.int p1), .val (.int p2), .val (.int p3), .val (.int p4), .val (.int p5), .val (.int (4 : Int32)), .val (.int ev0), .val (.int ev1), .val (.int ev2), .val (.int ev3), .val (.ref a241), .val (.ref r263), .val (.ref r268), .unset] [(.int (0 : Int32)), (.ref a241)])) _
      refine XS.iload X276.here hx rfl (hb hby at_139) rfl ?_
      show Steps p.tables e below (T276.setTop (mkF m 141 #[.val (.int p1), .val (.int p2), .val (.int p3), .val (.int p4), .val (.int p5), .val (.int (4 : Int32)), .val (.int ev0), .val (.int ev1), .val (.int ev2), .val (.int ev3), .val (.ref a241), .val (.ref r263), .val (.ref r268), .unset] [(.int ev0), (.int (0 : Int32)), (.ref a241)])) _
      refine XS.iconst X276.here hx rfl (hb hby at_141) ?_
      show Steps p.tables e below (T276.setTop (mkF m 142 #[.val (.int p1), .val (.int p2), .val (.int p3), .val (.int p4), .val (.int p5), .val (.int (4 : Int32)), .val (.int ev0), .val (.int ev1), .val (.int ev2), .val (.int ev3), .val (.ref a241), .val (.ref r263), .val (.ref r268), .unset] [(.int (-1 : Int32)), (.int ev0), (.int (0 : Int32)), (.ref a241)])) _
      refine XS.ixor X276.here hx rfl (hb hby at_142) rfl ?_
      show Steps p.tables e below (T276.setTop (mkF m 143 #[.val (.int p1), .val (.int p2), .val (.int p3), .val (.int p4), .val (.int p5), .val (.int (4 : Int32)), .val (.int ev0), .val (.int ev1), .val (.int ev2), .val (.int ev3), .val (.ref a241), .val (.ref r263), .val (.ref r268), .unset] [(.int (ev0 ^^^ (-1 : Int32))), (.int (0 : Int32)), (.ref a241)])) _
      refine XS.i2b X276.here hx rfl (hb hby at_143) rfl ?_
      show Steps p.tables e below (T276.setTop (mkF m 144 #[.val (.int p1), .val (.int p2), .val (.int p3), .val (.int p4), .val (.int p5), .val (.int (4 : Int32)), .val (.int ev0), .val (.int ev1), .val (.int ev2), .val (.int ev3), .val (.ref a241), .val (.ref r263), .val (.ref r268), .unset] [(.int ((ev0 ^^^ (-1 : Int32)).toInt8.toInt32)), (.int (0 : Int32)), (.ref a241)])) _
      refine st280 _ ?_
      show Steps p.tables e below (T280.setTop (mkF m 145 #[.val (.int p1), .val (.int p2), .val (.int p3), .val (.int p4), .val (.int p5), .val (.int (4 : Int32)), .val (.int ev0), .val (.int ev1), .val (.int ev2), .val (.int ev3), .val (.ref a241), .val (.ref r263), .val (.ref r268), .unset] [])) _
      refine XS.iload X280.here hx rfl (hb hby at_145) rfl ?_
      show Steps p.tables e below (T280.setTop (mkF m 147 #[.val (.int p1), .val (.int p2), .val (.int p3), .val (.int p4), .val (.int p5), .val (.int (4 : Int32)), .val (.int ev0), .val (.int ev1), .val (.int ev2), .val (.int ev3), .val (.ref a241), .val (.ref r263), .val (.ref r268), .unset] [(.int (4 : Int32))])) _
      refine XS.iconst X280.here hx rfl (hb hby at_147) ?_
      show Steps p.tables e below (T280.setTop (mkF m 148 #[.val (.int p1), .val (.int p2), .val (.int p3), .val (.int p4), .val (.int p5), .val (.int (4 : Int32)), .val (.int ev0), .val (.int ev1), .val (.int ev2), .val (.int ev3), .val (.ref a241), .val (.ref r263), .val (.ref r268), .unset] [(.int (1 : Int32)), (.int (4 : Int32))])) _
      refine XS.icmpNo X280.here hx rfl (hb hby at_148) rfl (tlt hc148_289).2.2.2 ?_
      show Steps p.tables e below (T280.setTop (mkF m 151 #[.val (.int p1), .val (.int p2), .val (.int p3), .val (.int p4), .val (.int p5), .val (.int (4 : Int32)), .val (.int ev0), .val (.int ev1), .val (.int ev2), .val (.int ev3), .val (.ref a241), .val (.ref r263), .val (.ref r268), .unset] [])) _
      refine XS.aload X280.here hx rfl (hb hby at_151) rfl rfl ?_
      show Steps p.tables e below (T280.setTop (mkF m 153 #[.val (.int p1), .val (.int p2), .val (.int p3), .val (.int p4), .val (.int p5), .val (.int (4 : Int32)), .val (.int ev0), .val (.int ev1), .val (.int ev2), .val (.int ev3), .val (.ref a241), .val (.ref r263), .val (.ref r268), .unset] [(.ref a241)])) _
      refine XS.iconst X280.here hx rfl (hb hby at_153) ?_
      show Steps p.tables e below (T280.setTop (mkF m 154 #[.val (.int p1), .val (.int p2), .val (.int p3), .val (.int p4), .val (.int p5), .val (.int (4 : Int32)), .val (.int ev0), .val (.int ev1), .val (.int ev2), .val (.int ev3), .val (.ref a241), .val (.ref r263), .val (.ref r268), .unset] [(.int (1 : Int32)), (.ref a241)])) _
      refine XS.iload X280.here hx rfl (hb hby at_154) rfl ?_
      show Steps p.tables e below (T280.setTop (mkF m 156 #[.val (.int p1), .val (.int p2), .val (.int p3), .val (.int p4), .val (.int p5), .val (.int (4 : Int32)), .val (.int ev0), .val (.int ev1), .val (.int ev2), .val (.int ev3), .val (.ref a241), .val (.ref r263), .val (.ref r268), .unset] [(.int ev1), (.int (1 : Int32)), (.ref a241)])) _
      refine XS.iconst X280.here hx rfl (hb hby at_156) ?_
      show Steps p.tables e below (T280.setTop (mkF m 157 #[.val (.int p1), .val (.int p2), .val (.int p3), .val (.int p4), .val (.int p5), .val (.int (4 : Int32)), .val (.int ev0), .val (.int ev1), .val (.int ev2), .val (.int ev3), .val (.ref a241), .val (.ref r263), .val (.ref r268), .unset] [(.int (-1 : Int32)), (.int ev1), (.int (1 : Int32)), (.ref a241)])) _
      refine XS.ixor X280.here hx rfl (hb hby at_157) rfl ?_
      show Steps p.tables e below (T280.setTop (mkF m 158 #[.val (.int p1), .val (.int p2), .val (.int p3), .val (.int p4), .val (.int p5), .val (.int (4 : Int32)), .val (.int ev0), .val (.int ev1), .val (.int ev2), .val (.int ev3), .val (.ref a241), .val (.ref r263), .val (.ref r268), .unset] [(.int (ev1 ^^^ (-1 : Int32))), (.int (1 : Int32)), (.ref a241)])) _
      refine XS.i2b X280.here hx rfl (hb hby at_158) rfl ?_
      show Steps p.tables e below (T280.setTop (mkF m 159 #[.val (.int p1), .val (.int p2), .val (.int p3), .val (.int p4), .val (.int p5), .val (.int (4 : Int32)), .val (.int ev0), .val (.int ev1), .val (.int ev2), .val (.int ev3), .val (.ref a241), .val (.ref r263), .val (.ref r268), .unset] [(.int ((ev1 ^^^ (-1 : Int32)).toInt8.toInt32)), (.int (1 : Int32)), (.ref a241)])) _
      refine st291 _ ?_
      show Steps p.tables e below (T291.setTop (mkF m 160 #[.val (.int p1), .val (.int p2), .val (.int p3), .val (.int p4), .val (.int p5), .val (.int (4 : Int32)), .val (.int ev0), .val (.int ev1), .val (.int ev2), .val (.int ev3), .val (.ref a241), .val (.ref r263), .val (.ref r268), .unset] [])) _
      refine XS.iload X291.here hx rfl (hb hby at_160) rfl ?_
      show Steps p.tables e below (T291.setTop (mkF m 162 #[.val (.int p1), .val (.int p2), .val (.int p3), .val (.int p4), .val (.int p5), .val (.int (4 : Int32)), .val (.int ev0), .val (.int ev1), .val (.int ev2), .val (.int ev3), .val (.ref a241), .val (.ref r263), .val (.ref r268), .unset] [(.int (4 : Int32))])) _
      refine XS.iconst X291.here hx rfl (hb hby at_162) ?_
      show Steps p.tables e below (T291.setTop (mkF m 163 #[.val (.int p1), .val (.int p2), .val (.int p3), .val (.int p4), .val (.int p5), .val (.int (4 : Int32)), .val (.int ev0), .val (.int ev1), .val (.int ev2), .val (.int ev3), .val (.ref a241), .val (.ref r263), .val (.ref r268), .unset] [(.int (2 : Int32)), (.int (4 : Int32))])) _
      refine XS.icmpNo X291.here hx rfl (hb hby at_163) rfl (tlt hc163_300).2.2.2 ?_
      show Steps p.tables e below (T291.setTop (mkF m 166 #[.val (.int p1), .val (.int p2), .val (.int p3), .val (.int p4), .val (.int p5), .val (.int (4 : Int32)), .val (.int ev0), .val (.int ev1), .val (.int ev2), .val (.int ev3), .val (.ref a241), .val (.ref r263), .val (.ref r268), .unset] [])) _
      refine XS.aload X291.here hx rfl (hb hby at_166) rfl rfl ?_
      show Steps p.tables e below (T291.setTop (mkF m 168 #[.val (.int p1), .val (.int p2), .val (.int p3), .val (.int p4), .val (.int p5), .val (.int (4 : Int32)), .val (.int ev0), .val (.int ev1), .val (.int ev2), .val (.int ev3), .val (.ref a241), .val (.ref r263), .val (.ref r268), .unset] [(.ref a241)])) _
      refine XS.iconst X291.here hx rfl (hb hby at_168) ?_
      show Steps p.tables e below (T291.setTop (mkF m 169 #[.val (.int p1), .val (.int p2), .val (.int p3), .val (.int p4), .val (.int p5), .val (.int (4 : Int32)), .val (.int ev0), .val (.int ev1), .val (.int ev2), .val (.int ev3), .val (.ref a241), .val (.ref r263), .val (.ref r268), .unset] [(.int (2 : Int32)), (.ref a241)])) _
      refine XS.iload X291.here hx rfl (hb hby at_169) rfl ?_
      show Steps p.tables e below (T291.setTop (mkF m 171 #[.val (.int p1), .val (.int p2), .val (.int p3), .val (.int p4), .val (.int p5), .val (.int (4 : Int32)), .val (.int ev0), .val (.int ev1), .val (.int ev2), .val (.int ev3), .val (.ref a241), .val (.ref r263), .val (.ref r268), .unset] [(.int ev2), (.int (2 : Int32)), (.ref a241)])) _
      refine XS.iconst X291.here hx rfl (hb hby at_171) ?_
      show Steps p.tables e below (T291.setTop (mkF m 172 #[.val (.int p1), .val (.int p2), .val (.int p3), .val (.int p4), .val (.int p5), .val (.int (4 : Int32)), .val (.int ev0), .val (.int ev1), .val (.int ev2), .val (.int ev3), .val (.ref a241), .val (.ref r263), .val (.ref r268), .unset] [(.int (-1 : Int32)), (.int ev2), (.int (2 : Int32)), (.ref a241)])) _
      refine XS.ixor X291.here hx rfl (hb hby at_172) rfl ?_
      show Steps p.tables e below (T291.setTop (mkF m 173 #[.val (.int p1), .val (.int p2), .val (.int p3), .val (.int p4), .val (.int p5), .val (.int (4 : Int32)), .val (.int ev0), .val (.int ev1), .val (.int ev2), .val (.int ev3), .val (.ref a241), .val (.ref r263), .val (.ref r268), .unset] [(.int (ev2 ^^^ (-1 : Int32))), (.int (2 : Int32)), (.ref a241)])) _
      refine XS.i2b X291.here hx rfl (hb hby at_173) rfl ?_
      show Steps p.tables e below (T291.setTop (mkF m 174 #[.val (.int p1), .val (.int p2), .val (.int p3), .val (.int p4), .val (.int p5), .val (.int (4 : Int32)), .val (.int ev0), .val (.int ev1), .val (.int ev2), .val (.int ev3), .val (.ref a241), .val (.ref r263), .val (.ref r268), .unset] [(.int ((ev2 ^^^ (-1 : Int32)).toInt8.toInt32)), (.int (2 : Int32)), (.ref a241)])) _
      refine st302 _ ?_
      show Steps p.tables e below (T302.setTop (mkF m 175 #[.val (.int p1), .val (.int p2), .val (.int p3), .val (.int p4), .val (.int p5), .val (.int (4 : Int32)), .val (.int ev0), .val (.int ev1), .val (.int ev2), .val (.int ev3), .val (.ref a241), .val (.ref r263), .val (.ref r268), .unset] [])) _
      refine XS.iload X302.here hx rfl (hb hby at_175) rfl ?_
      show Steps p.tables e below (T302.setTop (mkF m 177 #[.val (.int p1), .val (.int p2), .val (.int p3), .val (.int p4), .val (.int p5), .val (.int (4 : Int32)), .val (.int ev0), .val (.int ev1), .val (.int ev2), .val (.int ev3), .val (.ref a241), .val (.ref r263), .val (.ref r268), .unset] [(.int (4 : Int32))])) _
      refine XS.iconst X302.here hx rfl (hb hby at_177) ?_
      show Steps p.tables e below (T302.setTop (mkF m 178 #[.val (.int p1), .val (.int p2), .val (.int p3), .val (.int p4), .val (.int p5), .val (.int (4 : Int32)), .val (.int ev0), .val (.int ev1), .val (.int ev2), .val (.int ev3), .val (.ref a241), .val (.ref r263), .val (.ref r268), .unset] [(.int (3 : Int32)), (.int (4 : Int32))])) _
      refine XS.icmpNo X302.here hx rfl (hb hby at_178) rfl (tlt hc178_311).2.2.2 ?_
      show Steps p.tables e below (T302.setTop (mkF m 181 #[.val (.int p1), .val (.int p2), .val (.int p3), .val (.int p4), .val (.int p5), .val (.int (4 : Int32)), .val (.int ev0), .val (.int ev1), .val (.int ev2), .val (.int ev3), .val (.ref a241), .val (.ref r263), .val (.ref r268), .unset] [])) _
      refine XS.aload X302.here hx rfl (hb hby at_181) rfl rfl ?_
      show Steps p.tables e below (T302.setTop (mkF m 183 #[.val (.int p1), .val (.int p2), .val (.int p3), .val (.int p4), .val (.int p5), .val (.int (4 : Int32)), .val (.int ev0), .val (.int ev1), .val (.int ev2), .val (.int ev3), .val (.ref a241), .val (.ref r263), .val (.ref r268), .unset] [(.ref a241)])) _
      refine XS.iconst X302.here hx rfl (hb hby at_183) ?_
      show Steps p.tables e below (T302.setTop (mkF m 184 #[.val (.int p1), .val (.int p2), .val (.int p3), .val (.int p4), .val (.int p5), .val (.int (4 : Int32)), .val (.int ev0), .val (.int ev1), .val (.int ev2), .val (.int ev3), .val (.ref a241), .val (.ref r263), .val (.ref r268), .unset] [(.int (3 : Int32)), (.ref a241)])) _
      refine XS.iload X302.here hx rfl (hb hby at_184) rfl ?_
      show Steps p.tables e below (T302.setTop (mkF m 186 #[.val (.int p1), .val (.int p2), .val (.int p3), .val (.int p4), .val (.int p5), .val (.int (4 : Int32)), .val (.int ev0), .val (.int ev1), .val (.int ev2), .val (.int ev3), .val (.ref a241), .val (.ref r263), .val (.ref r268), .unset] [(.int ev3), (.int (3 : Int32)), (.ref a241)])) _
      refine XS.iconst X302.here hx rfl (hb hby at_186) ?_
      show Steps p.tables e below (T302.setTop (mkF m 187 #[.val (.int p1), .val (.int p2), .val (.int p3), .val (.int p4), .val (.int p5), .val (.int (4 : Int32)), .val (.int ev0), .val (.int ev1), .val (.int ev2), .val (.int ev3), .val (.ref a241), .val (.ref r263), .val (.ref r268), .unset] [(.int (-1 : Int32)), (.int ev3), (.int (3 : Int32)), (.ref a241)])) _
      refine XS.ixor X302.here hx rfl (hb hby at_187) rfl ?_
      show Steps p.tables e below (T302.setTop (mkF m 188 #[.val (.int p1), .val (.int p2), .val (.int p3), .val (.int p4), .val (.int p5), .val (.int (4 : Int32)), .val (.int ev0), .val (.int ev1), .val (.int ev2), .val (.int ev3), .val (.ref a241), .val (.ref r263), .val (.ref r268), .unset] [(.int (ev3 ^^^ (-1 : Int32))), (.int (3 : Int32)), (.ref a241)])) _
      refine XS.i2b X302.here hx rfl (hb hby at_188) rfl ?_
      show Steps p.tables e below (T302.setTop (mkF m 189 #[.val (.int p1), .val (.int p2), .val (.int p3), .val (.int p4), .val (.int p5), .val (.int (4 : Int32)), .val (.int ev0), .val (.int ev1), .val (.int ev2), .val (.int ev3), .val (.ref a241), .val (.ref r263), .val (.ref r268), .unset] [(.int ((ev3 ^^^ (-1 : Int32)).toInt8.toInt32)), (.int (3 : Int32)), (.ref a241)])) _
      refine st313 _ ?_
      show Steps p.tables e below (T313.setTop (mkF m 190 #[.val (.int p1), .val (.int p2), .val (.int p3), .val (.int p4), .val (.int p5), .val (.int (4 : Int32)), .val (.int ev0), .val (.int ev1), .val (.int ev2), .val (.int ev3), .val (.ref a241), .val (.ref r263), .val (.ref r268), .unset] [])) _
      refine XS.aload X313.here hx rfl (hb hby at_190) rfl rfl ?_
      show Steps p.tables e below (T313.setTop (mkF m 192 #[.val (.int p1), .val (.int p2), .val (.int p3), .val (.int p4), .val (.int p5), .val (.int (4 : Int32)), .val (.int ev0), .val (.int ev1), .val (.int ev2), .val (.int ev3), .val (.ref a241), .val (.ref r263), .val (.ref r268), .unset] [(.ref r263)])) _
      refine st322.trans ?_
      show Steps p.tables e below (T322.setTop (mkF m 195 #[.val (.int p1), .val (.int p2), .val (.int p3), .val (.int p4), .val (.int p5), .val (.int (4 : Int32)), .val (.int ev0), .val (.int ev1), .val (.int ev2), .val (.int ev3), .val (.ref a241), .val (.ref r263), .val (.ref r268), .unset] [(.ref r322)])) _
      refine XS.astore X322.here hx rfl (hb hby at_195) rfl rfl (l' := #[.val (.int p1), .val (.int p2), .val (.int p3), .val (.int p4), .val (.int p5), .val (.int (4 : Int32)), .val (.int ev0), .val (.int ev1), .val (.int ev2), .val (.int ev3), .val (.ref a241), .val (.ref r263), .val (.ref r268), .val (.ref r322)]) rfl ?_
      show Steps p.tables e below (T322.setTop (mkF m 197 #[.val (.int p1), .val (.int p2), .val (.int p3), .val (.int p4), .val (.int p5), .val (.int (4 : Int32)), .val (.int ev0), .val (.int ev1), .val (.int ev2), .val (.int ev3), .val (.ref a241), .val (.ref r263), .val (.ref r268), .val (.ref r322)] [])) _
      refine XS.aload X322.here hx rfl (hb hby at_197) rfl rfl ?_
      show Steps p.tables e below (T322.setTop (mkF m 199 #[.val (.int p1), .val (.int p2), .val (.int p3), .val (.int p4), .val (.int p5), .val (.int (4 : Int32)), .val (.int ev0), .val (.int ev1), .val (.int ev2), .val (.int ev3), .val (.ref a241), .val (.ref r263), .val (.ref r268), .val (.ref r322)] [(.ref r322)])) _
      refine XS.iload X322.here hx rfl (hb hby at_199) rfl ?_
      show Steps p.tables e below (T322.setTop (mkF m 201 #[.val (.int p1), .val (.int p2), .val (.int p3), .val (.int p4), .val (.int p5), .val (.int (4 : Int32)), .val (.int ev0), .val (.int ev1), .val (.int ev2), .val (.int ev3), .val (.ref a241), .val (.ref r263), .val (.ref r268), .val (.ref r322)] [(.int (4 : Int32)), (.ref r322)])) _
      refine XS.iload X322.here hx rfl (hb hby at_201) rfl ?_
      show Steps p.tables e below (T322.setTop (mkF m 203 #[.val (.int p1), .val (.int p2), .val (.int p3), .val (.int p4), .val (.int p5), .val (.int (4 : Int32)), .val (.int ev0), .val (.int ev1), .val (.int ev2), .val (.int ev3), .val (.ref a241), .val (.ref r263), .val (.ref r268), .val (.ref r322)] [(.int ev0), (.int (4 : Int32)), (.ref r322)])) _
      refine XS.iload X322.here hx rfl (hb hby at_203) rfl ?_
      show Steps p.tables e below (T322.setTop (mkF m 205 #[.val (.int p1), .val (.int p2), .val (.int p3), .val (.int p4), .val (.int p5), .val (.int (4 : Int32)), .val (.int ev0), .val (.int ev1), .val (.int ev2), .val (.int ev3), .val (.ref a241), .val (.ref r263), .val (.ref r268), .val (.ref r322)] [(.int ev1), (.int ev0), (.int (4 : Int32)), (.ref r322)])) _
      refine XS.iload X322.here hx rfl (hb hby at_205) rfl ?_
      show Steps p.tables e below (T322.setTop (mkF m 207 #[.val (.int p1), .val (.int p2), .val (.int p3), .val (.int p4), .val (.int p5), .val (.int (4 : Int32)), .val (.int ev0), .val (.int ev1), .val (.int ev2), .val (.int ev3), .val (.ref a241), .val (.ref r263), .val (.ref r268), .val (.ref r322)] [(.int ev2), (.int ev1), (.int ev0), (.int (4 : Int32)), (.ref r322)])) _
      refine XS.iload X322.here hx rfl (hb hby at_207) rfl ?_
      show Steps p.tables e below (T322.setTop (mkF m 209 #[.val (.int p1), .val (.int p2), .val (.int p3), .val (.int p4), .val (.int p5), .val (.int (4 : Int32)), .val (.int ev0), .val (.int ev1), .val (.int ev2), .val (.int ev3), .val (.ref a241), .val (.ref r263), .val (.ref r268), .val (.ref r322)] [(.int ev3), (.int ev2), (.int ev1), (.int ev0), (.int (4 : Int32)), (.ref r322)])) _
      refine st332 _ ?_
      show Steps p.tables e below (T332.setTop (mkF m 212 #[.val (.int p1), .val (.int p2), .val (.int p3), .val (.int p4), .val (.int p5), .val (.int (4 : Int32)), .val (.int ev0), .val (.int ev1), .val (.int ev2), .val (.int ev3), .val (.ref a241), .val (.ref r263), .val (.ref r268), .val (.ref r322)] [(.int (own_same_0 (fun i => ([ev0, ev1, ev2, ev3] : List Int32).getD i 0) (4 : Int32) (4 : Int32) ev0 ev1 ev2 ev3))])) _
      refine XS.ifYes X332.here hx rfl (pc0 := 212) (pc' := 217) rfl (hb hby at_212) rfl ((if0 _ _).trans (feq hc212_333).2) (by decide) (by decide) ?_
      show Steps p.tables e below (T332.setTop (mkF m 217 #[.val (.int p1), .val (.int p2), .val (.int p3), .val (.int p4), .val (.int p5), .val (.int (4 : Int32)), .val (.int ev0), .val (.int ev1), .val (.int ev2), .val (.int ev3), .val (.ref a241), .val (.ref r263), .val (.ref r268), .val (.ref r322)] [])) _
      refine XS.aload X332.here hx rfl (hb hby at_217) rfl rfl ?_
      show Steps p.tables e below (T332.setTop (mkF m 219 #[.val (.int p1), .val (.int p2), .val (.int p3), .val (.int p4), .val (.int p5), .val (.int (4 : Int32)), .val (.int ev0), .val (.int ev1), .val (.int ev2), .val (.int ev3), .val (.ref a241), .val (.ref r263), .val (.ref r268), .val (.ref r322)] [(.ref r263)])) _
      refine st334.trans ?_
      show Steps p.tables e below (T334.setTop (mkF m 222 #[.val (.int p1), .val (.int p2), .val (.int p3), .val (.int p4), .val (.int p5), .val (.int (4 : Int32)), .val (.int ev0), .val (.int ev1), .val (.int ev2), .val (.int ev3), .val (.ref a241), .val (.ref r263), .val (.ref r268), .val (.ref r322)] [(.int (4 : Int32))])) _
      refine XS.iload X334.here hx rfl (hb hby at_222) rfl ?_
      show Steps p.tables e below (T334.setTop (mkF m 224 #[.val (.int p1), .val (.int p2), .val (.int p3), .val (.int p4), .val (.int p5), .val (.int (4 : Int32)), .val (.int ev0), .val (.int ev1), .val (.int ev2), .val (.int ev3), .val (.ref a241), .val (.ref r263), .val (.ref r268), .val (.ref r322)] [(.int (4 : Int32)), (.int (4 : Int32))])) _
      refine XS.icmpNo X334.here hx rfl (hb hby at_224) rfl (teq hc224_335).2 ?_
      show Steps p.tables e below (T334.setTop (mkF m 227 #[.val (.int p1), .val (.int p2), .val (.int p3), .val (.int p4), .val (.int p5), .val (.int (4 : Int32)), .val (.int ev0), .val (.int ev1), .val (.int ev2), .val (.int ev3), .val (.ref a241), .val (.ref r263), .val (.ref r268), .val (.ref r322)] [])) _
      refine XS.iconst X334.here hx rfl (hb hby at_227) ?_
      show Steps p.tables e below (T334.setTop (mkF m 228 #[.val (.int p1), .val (.int p2), .val (.int p3), .val (.int p4), .val (.int p5), .val (.int (4 : Int32)), .val (.int ev0), .val (.int ev1), .val (.int ev2), .val (.int ev3), .val (.ref a241), .val (.ref r263), .val (.ref r268), .val (.ref r322)] [(.int (1 : Int32))])) _
      refine XS.goto X334.here hx rfl (pc0 := 228) (pc' := 232) rfl (hb hby at_228) (by decide) (by decide) ?_
      show Steps p.tables e below (T334.setTop (mkF m 232 #[.val (.int p1), .val (.int p2), .val (.int p3), .val (.int p4), .val (.int p5), .val (.int (4 : Int32)), .val (.int ev0), .val (.int ev1), .val (.int ev2), .val (.int ev3), .val (.ref a241), .val (.ref r263), .val (.ref r268), .val (.ref r322)] [(.int (1 : Int32))])) _
      exact retN X334 hx (t := .boolean) Bd.returns (by simp) (hb hby at_232) hr
    · exact ⟨rfl, N334⟩
set_option maxRecDepth 65536 in
set_option maxHeartbeats 40000000 in
theorem comes_1 {Post : Tables → Env → Array Value → State → Outcome → State → Prop} (hpost : ∀ tb e args s v u, (limb_1_1.after args s (.returned v) u = true ∧ limb_1_2.after args s (.returned v) u = true ∧ True) → FrameEnd s (.returned v) u (Jvm.fieldLocs frame_1_writes args s ++ Jvm.arrayLocs frame_1_arrays args s ++ Jvm.staticLocs frame_1_statics s) 24 128 → Post tb e args s (.returned v) u) :
    ArmFor flags0 classFile x code maxLocals ret World_1 tables_1 room_1 Calls_1 rest_1 Pre_1 Post := by
  intro l hfl _ _ p e ha hc hk s m args below hf hA hF happ hP
  obtain ⟨hcalls, hrest, hpre⟩ := hP
  obtain ⟨-, -, -, hnamed, -, -, -, hat⟩ := (Spec.applies_iff hf).mp happ
  obtain ⟨hg, hn⟩ := and_e (Cond.before_iff.mp (show (Jvm.Cond.and given_1 narrow_1).before args s = true from hpre))
  obtain ⟨g0, r0⟩ := and_e hg
  obtain ⟨g1, r1⟩ := and_e r0
  obtain ⟨g2, r2⟩ := and_e r1
  obtain ⟨g3, r3⟩ := and_e r2
  obtain ⟨g4, r4⟩ := and_e r3
  obtain ⟨w0, w1, w2, w3, w4, rfl⟩ : ∃ w0 w1 w2 w3 w4 : Value, args = #[w0, w1, w2, w3, w4] := by
    have hs : args.size = 5 := by simpa [Cond.value, given_1] using g0
    obtain ⟨L⟩ := args
    match L, hs with
    | [w0, w1, w2, w3, w4], _ => exact ⟨w0, w1, w2, w3, w4, rfl⟩
  have hw := fun d (hd : d ∈ tables_1) => atoms_spec (ws := Jvm.Cond.code x code maxLocals ret :: tables_1) hat d (List.mem_cons_of_mem _ hd)
  obtain ⟨i0, y0⟩ := is_v g1
  obtain rfl : w0 = (.int i0) := Option.some.inj y0
  obtain ⟨i1, y1⟩ := is_v g2
  obtain rfl : w1 = (.int i1) := Option.some.inj y1
  obtain ⟨i2, y2⟩ := is_v g3
  obtain rfl : w2 = (.int i2) := Option.some.inj y2
  obtain ⟨i3, y3⟩ := is_v g4
  obtain rfl : w3 = (.int i3) := Option.some.inj y3
  obtain ⟨i4, y4⟩ := is_v r4
  obtain rfl : w4 = (.int i4) := Option.some.inj y4
  obtain ⟨n, o, h1, h2, h3, _, L, rfl, ⟨rfl, N⟩, hq⟩ := rm0 l s _ hw tables_1 i0 i1 i2 i3 i4 s.heap s.heap.size (Nat.le_refl _) p e ha hc hk s m _ below hf ((Spec.applies_iff_loose hf).mp happ).1 ⟨rfl, State.Warmed39.refl s, rfl⟩ trivial
  refine ⟨n, _, h1, h2, h3, hpost _ _ _ _ _ _ ⟨Cond.after_iff.mpr rfl, Cond.after_iff.mpr (eq_i res_at (Term.int_eval (1)) rfl), trivial⟩ ⟨hq.1, hq.2.1, (hq.2.2.sift fun y hy => Or.inr (N y hy)).mono (by decide) (by decide)⟩⟩
theorem main_1_1 : Claimed_1_1 := comes_1 fun _ _ _ _ _ _ h hF => ⟨h.1, hF⟩
theorem main_1_2 : Claimed_1_2 := comes_1 fun _ _ _ _ _ _ h hF => ⟨h.2.1, hF⟩
end Jvm.Pilot.@@N@@
namespace Jvm.Pilot.@@N@@
open Jvm Jvm.ClassFile Sem Op Lib Jvm.Free Jvm.Stand Jvm.Pilot.@@N@@.Jvm.D
/-! MADE BY PROGRAM (witnessworld.py) out of the Statement's table words and the real class files: 7 classes; the members and pool entries that the words name. The judged class is class 1, her method 2. -/
namespace start1
open Jvm.ClassFile
def u (s : String) : CpInfo := .utf8 (stringToUtf16 s)
/-- a pool by its gaps: so many unusable entries, then the entry; so many at the end -/
def gap : Nat → List CpInfo → List CpInfo
  | 0, r => r
  | n + 1, r => .unusable :: gap n r
def poolList (es : List (Nat × CpInfo)) (last : Nat) : List CpInfo := es.foldr (fun e r => gap e.1 (e.2 :: r)) (gap last [])
def pool (es : List (Nat × CpInfo)) (last : Nat) : Array CpInfo := ⟨poolList es last⟩
def fileOf (pool : Array CpInfo) (this : Nat) (attrs : Array Attribute := #[]) (ms : Array MethodInfo := #[]) (fl : Nat := 33) (sup : Nat := 0) (ifs : Array Nat := #[]) (fds : Array FieldInfo := #[]) : ClassFile where
  minorVersion := 0
  majorVersion := 65
  constantPool := pool
  accessFlags := fl
  thisClass := this
  superClass := sup
  interfaces := ifs
  fields := fds
  methods := ms
  attributes := attrs
def plain (name : String) (sup : Option ClassId) : Class where
  name := name
  kind := .ordinary
  loader := none
  accessFlags := 33
  super := sup
  interfaces := #[]
  cf := none
  fields := #[]
  methods := #[]
  instanceTypes := #[]
  staticTypes := #[]
  resolved := #[]
  callSites := []
  init := .initialized
  statics := none
  mirror := none

def pool0 : Array CpInfo := pool [(5, u "<init>"), (0, u "()V"), (1, .class_ 10), (1, u "java/lang/Object"), (85, u "clone"), (0, u "()Ljava/lang/Object;")] 26

def k0c0 : Code := { maxStack := 0, maxLocals := 1, code := object_method_1_code, exceptionTable := #[], attributes := #[] }
def k0m0 : Method := { name := "<init>", desc := "()V", sig := { parameters := [], returnType := none }, accessFlags := 1, code := some k0c0 }
def k0m1 : Method := { name := "clone", desc := "()Ljava/lang/Object;", sig := { parameters := [], returnType := some (.object "java/lang/Object") }, accessFlags := 260, code := none }
/-- java/lang/Object -/
def k0 : Class := { plain "java/lang/Object" none with
  accessFlags := 33
  interfaces := #[]
  cf := some (fileOf pool0 8 #[] #[{ accessFlags := 1, nameIndex := 5, descriptorIndex := 6, attributes := #[] }, { accessFlags := 260, nameIndex := 96, descriptorIndex := 97, attributes := #[] }] 33 0 #[] #[])
  fields := #[]
  methods := #[k0m0, k0m1]
  instanceTypes := #[]
  staticTypes := #[]
  resolved := Array.replicate 124 none
  statics := none }

def pool1 : Array CpInfo := pool [(2, .class_ 4), (1, u "java/lang/Object"), (0, u "<init>"), (0, u "()V"), (0, .integer 2147483647), (0, .methodref 9 10), (0, .class_ 11), (0, .nameAndType 12 13), (0, u "com/example/cicada/cicada/core/Payload"), (0, u "of"), (0, u "([B)Lcom/example/cicada/cicada/core/Payload;"), (0, .methodref 9 15), (0, .nameAndType 16 17), (0, u "size"), (0, u "()I"), (0, .methodref 9 19), (0, .nameAndType 20 21), (0, u "bytes"), (0, u "()[B"), (0, .methodref 23 24), (0, .class_ 25), (0, .nameAndType 26 27), (0, u "com/example/cicada/cicada/core/PayloadOfPinLaw"), (0, u "same"), (0, u "([BIBBBB)Z"), (3, u "law"), (0, u "(IIIII)Z")] 4

def k1m0 : Method := { name := "<init>", desc := "()V", sig := { parameters := [], returnType := none }, accessFlags := 2, code := none }
def k1c1 : Code := { maxStack := 2, maxLocals := 6, code := method_2_code, exceptionTable := #[], attributes := #[] }
def k1m1 : Method := { name := "same", desc := "([BIBBBB)Z", sig := { parameters := [(.array .byte), .int, .byte, .byte, .byte, .byte], returnType := some .boolean }, accessFlags := 10, code := some k1c1 }
def k1c2 : Code := { maxStack := 6, maxLocals := 14, code := code, exceptionTable := #[], attributes := #[] }
def k1m2 : Method := { name := "law", desc := "(IIIII)Z", sig := { parameters := [.int, .int, .int, .int, .int], returnType := some .boolean }, accessFlags := 9, code := some k1c2 }
/-- com/example/cicada/cicada/core/PayloadOfPinLaw -/
def k1 : Class := { plain "com/example/cicada/cicada/core/PayloadOfPinLaw" (some 0) with
  accessFlags := 49
  interfaces := #[]
  cf := some (fileOf pool1 23 #[] #[{ accessFlags := 2, nameIndex := 5, descriptorIndex := 6, attributes := #[] }, { accessFlags := 10, nameIndex := 26, descriptorIndex := 27, attributes := #[] }, { accessFlags := 9, nameIndex := 31, descriptorIndex := 32, attributes := #[] }] 49 2 #[] #[])
  fields := #[]
  methods := #[k1m0, k1m1, k1m2]
  instanceTypes := #[]
  staticTypes := #[]
  resolved := Array.replicate 37 none
  statics := none }

def pool2 : Array CpInfo := pool [(1, .methodref 2 3), (0, .class_ 4), (0, .nameAndType 5 6), (0, u "java/lang/Object"), (0, u "<init>"), (0, u "()V"), (0, .fieldref 8 9), (0, .class_ 10), (0, .nameAndType 11 12), (0, u "com/example/cicada/cicada/core/Payload"), (0, u "bytes"), (0, u "[B"), (0, .methodref 14 15), (0, .class_ 12), (0, .nameAndType 16 17), (0, u "clone"), (0, u "()Ljava/lang/Object;"), (0, .methodref 8 19), (0, .nameAndType 5 20), (0, u "([B)V"), (16, u "EMPTY"), (0, u "Lcom/example/cicada/cicada/core/Payload;"), (2, u "of"), (0, u "([B)Lcom/example/cicada/cicada/core/Payload;"), (0, u "()[B"), (0, u "size"), (0, u "()I")] 22

def k2c0 : Code := { maxStack := 2, maxLocals := 2, code := prog_42_method_1_code, exceptionTable := #[], attributes := #[] }
def k2m0 : Method := { name := "<init>", desc := "([B)V", sig := { parameters := [(.array .byte)], returnType := none }, accessFlags := 2, code := some k2c0 }
def k2c1 : Code := { maxStack := 3, maxLocals := 1, code := prog_42_method_2_code, exceptionTable := #[], attributes := #[] }
def k2m1 : Method := { name := "of", desc := "([B)Lcom/example/cicada/cicada/core/Payload;", sig := { parameters := [(.array .byte)], returnType := some (.object "com/example/cicada/cicada/core/Payload") }, accessFlags := 9, code := some k2c1 }
def k2c2 : Code := { maxStack := 1, maxLocals := 1, code := prog_42_method_3_code, exceptionTable := #[], attributes := #[] }
def k2m2 : Method := { name := "bytes", desc := "()[B", sig := { parameters := [], returnType := some (.array .byte) }, accessFlags := 1, code := some k2c2 }
def k2c3 : Code := { maxStack := 1, maxLocals := 1, code := prog_42_method_4_code, exceptionTable := #[], attributes := #[] }
def k2m3 : Method := { name := "size", desc := "()I", sig := { parameters := [], returnType := some .int }, accessFlags := 1, code := some k2c3 }
/-- com/example/cicada/cicada/core/Payload -/
def k2 : Class := { plain "com/example/cicada/cicada/core/Payload" (some 0) with
  accessFlags := 49
  interfaces := #[]
  cf := some (fileOf pool2 8 #[] #[{ accessFlags := 2, nameIndex := 5, descriptorIndex := 20, attributes := #[] }, { accessFlags := 9, nameIndex := 41, descriptorIndex := 42, attributes := #[] }, { accessFlags := 1, nameIndex := 11, descriptorIndex := 43, attributes := #[] }, { accessFlags := 1, nameIndex := 44, descriptorIndex := 45, attributes := #[] }] 49 2 #[] #[{ accessFlags := 25, nameIndex := 37, descriptorIndex := 38, attributes := #[] }, { accessFlags := 18, nameIndex := 11, descriptorIndex := 12, attributes := #[] }])
  fields := #[{ name := "EMPTY", type := (.object "com/example/cicada/cicada/core/Payload"), accessFlags := 25, slot := 0, constantValue := 0 }, { name := "bytes", type := (.array .byte), accessFlags := 18, slot := 0, constantValue := 0 }]
  methods := #[k2m0, k2m1, k2m2, k2m3]
  instanceTypes := #[(.array .byte)]
  staticTypes := #[(.object "com/example/cicada/cicada/core/Payload")]
  resolved := Array.replicate 68 none
  statics := none }

def pool3 : Array CpInfo := pool [(1, .class_ 2), (0, u "java/lang/Cloneable"), (0, .class_ 4), (0, u "java/lang/Object")] 2

/-- java/lang/Cloneable -/
def k3 : Class := { plain "java/lang/Cloneable" (some 0) with
  accessFlags := 1537
  interfaces := #[]
  cf := some (fileOf pool3 1 #[] #[] 1537 3 #[] #[])
  fields := #[]
  methods := #[]
  instanceTypes := #[]
  staticTypes := #[]
  resolved := Array.replicate 7 none
  statics := none }

def pool4 : Array CpInfo := pool [(1, u "java/io/Serializable"), (0, .class_ 1), (0, u "java/lang/Object"), (0, .class_ 3)] 3

/-- java/io/Serializable -/
def k4 : Class := { plain "java/io/Serializable" (some 0) with
  accessFlags := 1537
  interfaces := #[]
  cf := some (fileOf pool4 2 #[] #[] 1537 4 #[] #[])
  fields := #[]
  methods := #[]
  instanceTypes := #[]
  staticTypes := #[]
  resolved := Array.replicate 8 none
  statics := none }

/-- the primitive byte -/
def k5 : Class := { plain "byte" none with kind := .primitive 'B', accessFlags := 0x411 }
/-- [B -/
def k6 : Class := { plain "[B" (some 0) with kind := .array 5 .byte, interfaces := #[3, 4], accessFlags := 1041 }

def heap : Heap := #[]
def classes : Array Class := #[k0, k1, k2, k3, k4, k5, k6]
def interned : List (Array UInt16 × Addr) := []
def slotsUsed : Nat := 0
def theMethod : MethodId := ⟨1, 2⟩
def args0 : Array Value := #[.int 5, .int 1, .int 2, .int 3, .int 4]
def aboutOver (below : List Frame) : State where
  vm := { classes := classes, interned := interned.toArray }
  heap := heap
  slotsUsed := slotsUsed
  threads := #[{ frames := .invoking theMethod args0 :: below }]
def below0 : List Frame := [.native { method := ⟨0, 0⟩, args := #[] }]
def about1 : State := aboutOver below0
def p0 : Program := .bare "" "" ""
def e0 : Env := launch0.env 0 0 0
theorem w_frames : about1.frames = Frame.invoking theMethod args0 :: below0 := rfl
set_option maxRecDepth 65536 in
theorem w_args : argsFit about1.vm theMethod args0 = true := by decide +kernel
set_option maxRecDepth 65536 in
theorem w_heap : heapFits about1 = true := by decide +kernel
set_option maxRecDepth 65536 in
theorem w_runnable : about1.curStatus? = some .runnable := by decide +kernel
set_option maxRecDepth 65536 in
theorem w_alone : about1.alone = true := by decide +kernel
set_option maxRecDepth 65536 in
theorem w_named : about1.methodNamed? x = some theMethod := by decide +kernel
set_option maxRecDepth 65536 in
theorem w_hears : about1.hears theMethod below0 = true := by decide +kernel
set_option maxRecDepth 65536 in
theorem w_ripe : about1.ripe theMethod args0 below0 = true := by decide +kernel
theorem w_running : about1.status = .running := rfl
set_option maxRecDepth 65536 in
theorem w_room : about1.hasRoom e0.platform room_1 = true :=
  launch0.hasRoom_least _ room_1 (by decide +kernel) (by decide +kernel) (by decide +kernel) (by decide +kernel) (by decide +kernel) (by decide +kernel)
theorem allAtoms_all (ts : List Jvm.Cond) (a : Array Jvm.Value) (st : Jvm.State) : (allAtoms ts).before a st = ts.all (fun c => c.before a st) := by
  induction ts with
  | nil => rfl
  | cons c t ih =>
    show (Jvm.Cond.and c (allAtoms t)).before a st = _
    rw [Jvm.Cond.before_and, ih, List.all_cons]
def words1 : List Jvm.Cond := Jvm.Cond.code x code maxLocals ret :: tables_1
/-- a 'code' word, met by the world's own term for the bytes: nothing is compared byte by byte -/
theorem code_word {y : MethodName} {bytes : ByteArray} {mx : Nat} {rt : Option FieldType} {a : Array Value} {s : State} {m : MethodId} {meth : Method} {c : Code} (h1 : s.methodNamed? y = some m) (h2 : s.vm.method? m = some meth) (h3 : meth.code = some c) (h4 : c.code = bytes)
    (h5 : (c.maxLocals == mx && c.exceptionTable.isEmpty && decide (c.maxStack ≤ mostOperands) && decide (meth.sig.returnType = rt) && !meth.locks && decide (parseMethodDescriptor y.desc = some meth.sig)) = true) : (Jvm.Cond.code y bytes mx rt).before a s = true := by
  simp only [Bool.and_eq_true, beq_iff_eq, Bool.not_eq_true', decide_eq_true_eq] at h5
  obtain ⟨⟨⟨⟨⟨g1, g2⟩, g3⟩, g4⟩, g5⟩, g6⟩ := h5
  simp [Cond.before, Cond.holds, Cond.value, h1, h2, h3, h4, g1, g2, g3, g4, g5, g6]
def isCode : Jvm.Cond → Bool
  | .code _ _ _ _ => true
  | _ => false
theorem all_split {L : List Jvm.Cond} {P : Jvm.Cond → Bool} (h1 : L.all (fun c => isCode c || P c) = true) (h2 : ∀ c ∈ L.filter isCode, P c = true) : L.all P = true := by
  refine List.all_eq_true.mpr fun c hc => ?_
  have h := List.all_eq_true.mp h1 c hc
  rcases Bool.eq_false_or_eq_true (isCode c) with hi | hi
  · exact h2 c (List.mem_filter.mpr ⟨hc, hi⟩)
  · simpa [hi] using h
set_option maxRecDepth 65536 in
theorem w_c0 : (Jvm.Cond.code x code maxLocals ret).before args0 about1 = true := code_word (m := ⟨1, 2⟩) (meth := k1m2) (c := k1c2) (by decide +kernel) rfl rfl rfl (by decide +kernel)
set_option maxRecDepth 65536 in
theorem w_c1 : (Jvm.Cond.code ({ cls := "com/example/cicada/cicada/core/Payload", name := "of", desc := "([B)Lcom/example/cicada/cicada/core/Payload;" } : Jvm.MethodName) prog_42_method_2_code (1 : Nat) (Option.some (Jvm.ClassFile.FieldType.object "com/example/cicada/cicada/core/Payload"))).before args0 about1 = true := code_word (m := ⟨2, 1⟩) (meth := k2m1) (c := k2c1) (by decide +kernel) rfl rfl rfl (by decide +kernel)
set_option maxRecDepth 65536 in
theorem w_c2 : (Jvm.Cond.code ({ cls := "com/example/cicada/cicada/core/Payload", name := "<init>", desc := "([B)V" } : Jvm.MethodName) prog_42_method_1_code (2 : Nat) (Option.none : Option Jvm.ClassFile.FieldType)).before args0 about1 = true := code_word (m := ⟨2, 0⟩) (meth := k2m0) (c := k2c0) (by decide +kernel) rfl rfl rfl (by decide +kernel)
set_option maxRecDepth 65536 in
theorem w_c3 : (Jvm.Cond.code ({ cls := "java/lang/Object", name := "<init>", desc := "()V" } : Jvm.MethodName) object_method_1_code (1 : Nat) (Option.none : Option Jvm.ClassFile.FieldType)).before args0 about1 = true := code_word (m := ⟨0, 0⟩) (meth := k0m0) (c := k0c0) (by decide +kernel) rfl rfl rfl (by decide +kernel)
set_option maxRecDepth 65536 in
theorem w_c4 : (Jvm.Cond.code ({ cls := "com/example/cicada/cicada/core/Payload", name := "size", desc := "()I" } : Jvm.MethodName) prog_42_method_4_code (1 : Nat) (Option.some Jvm.ClassFile.FieldType.int)).before args0 about1 = true := code_word (m := ⟨2, 3⟩) (meth := k2m3) (c := k2c3) (by decide +kernel) rfl rfl rfl (by decide +kernel)
set_option maxRecDepth 65536 in
theorem w_c5 : (Jvm.Cond.code ({ cls := "com/example/cicada/cicada/core/Payload", name := "bytes", desc := "()[B" } : Jvm.MethodName) prog_42_method_3_code (1 : Nat) (Option.some (Jvm.ClassFile.FieldType.array Jvm.ClassFile.FieldType.byte))).before args0 about1 = true := code_word (m := ⟨2, 2⟩) (meth := k2m2) (c := k2c2) (by decide +kernel) rfl rfl rfl (by decide +kernel)
set_option maxRecDepth 65536 in
theorem w_c6 : (Jvm.Cond.code ({ cls := "com/example/cicada/cicada/core/PayloadOfPinLaw", name := "same", desc := "([BIBBBB)Z" } : Jvm.MethodName) method_2_code (6 : Nat) (Option.some Jvm.ClassFile.FieldType.boolean)).before args0 about1 = true := code_word (m := ⟨1, 1⟩) (meth := k1m1) (c := k1c1) (by decide +kernel) rfl rfl rfl (by decide +kernel)
def codes1 : List Jvm.Cond := [Jvm.Cond.code x code maxLocals ret, Jvm.Cond.code ({ cls := "com/example/cicada/cicada/core/Payload", name := "of", desc := "([B)Lcom/example/cicada/cicada/core/Payload;" } : Jvm.MethodName) prog_42_method_2_code (1 : Nat) (Option.some (Jvm.ClassFile.FieldType.object "com/example/cicada/cicada/core/Payload")), Jvm.Cond.code ({ cls := "com/example/cicada/cicada/core/Payload", name := "<init>", desc := "([B)V" } : Jvm.MethodName) prog_42_method_1_code (2 : Nat) (Option.none : Option Jvm.ClassFile.FieldType), Jvm.Cond.code ({ cls := "java/lang/Object", name := "<init>", desc := "()V" } : Jvm.MethodName) object_method_1_code (1 : Nat) (Option.none : Option Jvm.ClassFile.FieldType), Jvm.Cond.code ({ cls := "com/example/cicada/cicada/core/Payload", name := "size", desc := "()I" } : Jvm.MethodName) prog_42_method_4_code (1 : Nat) (Option.some Jvm.ClassFile.FieldType.int), Jvm.Cond.code ({ cls := "com/example/cicada/cicada/core/Payload", name := "bytes", desc := "()[B" } : Jvm.MethodName) prog_42_method_3_code (1 : Nat) (Option.some (Jvm.ClassFile.FieldType.array Jvm.ClassFile.FieldType.byte)), Jvm.Cond.code ({ cls := "com/example/cicada/cicada/core/PayloadOfPinLaw", name := "same", desc := "([BIBBBB)Z" } : Jvm.MethodName) method_2_code (6 : Nat) (Option.some Jvm.ClassFile.FieldType.boolean)]
set_option maxRecDepth 65536 in
theorem codes_eq : words1.filter isCode = codes1 := rfl
theorem w_codes : ∀ c ∈ words1.filter isCode, c.before args0 about1 = true := by
  rw [codes_eq]
  intro c hc
  simp only [codes1, List.mem_cons, List.not_mem_nil, or_false] at hc
  rcases hc with rfl | rfl | rfl | rfl | rfl | rfl | rfl
  · exact w_c0
  · exact w_c1
  · exact w_c2
  · exact w_c3
  · exact w_c4
  · exact w_c5
  · exact w_c6
set_option maxRecDepth 65536 in
theorem w_t1 : (words1.take 24).all (fun c => isCode c || c.before args0 about1) = true := by decide +kernel
set_option maxRecDepth 65536 in
theorem w_t2 : (words1.drop 24).all (fun c => isCode c || c.before args0 about1) = true := by decide +kernel
theorem w_tables : (allAtoms (Jvm.Cond.code x code maxLocals ret :: tables_1)).before args0 about1 = true := by
  rw [allAtoms_all]
  show words1.all (fun c => c.before args0 about1) = true
  refine all_split ?_ w_codes
  rw [← List.take_append_drop 24 words1, List.all_append, w_t1, w_t2]
  rfl
set_option maxRecDepth 65536 in
theorem w_case : (Jvm.Cond.and given_1 narrow_1).before args0 about1 = true := by decide +kernel
theorem w_applies : (headSpec (Jvm.Cond.code x code maxLocals ret :: tables_1) room_1).applies x e0.platform about1 = true :=
  (Spec.applies_iff w_frames).mpr ⟨w_running, w_runnable, w_alone, w_named, w_hears, w_ripe, w_room, w_tables⟩
theorem atStart : AtStart classFile x code maxLocals ret World_1 tables_1 room_1 Calls_1 rest_1 Pre_1 launch0 p0 e0 about1 theMethod args0 below0 :=
  ⟨lists_1, trivial, launch0.admits_env _ _ _, launch0.least_env, fairChoices_fair.cas, fairChoices_fair.clock, w_frames, w_args, w_heap, w_applies, trivial, trivial, w_case⟩
end start1
theorem witness_1 : WitnessClaimed_1 := ⟨start1.p0, start1.e0, start1.about1, start1.theMethod, start1.args0, start1.below0, start1.atStart⟩
end Jvm.Pilot.@@N@@
