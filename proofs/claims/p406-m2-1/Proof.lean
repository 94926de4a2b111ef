import JvmDerived
import JvmDerived.Pilot.@@N@@Statement
import JvmDerived.Pilot.@@N@@Code
set_option linter.unusedVariables false
set_option linter.unusedSimpArgs false
@@BLOCK:NumsL.lean.txt@@
@@BLOCK:Masks.lean.txt@@
namespace Jvm.RoadKit
open Sem ClassFile Op Lib Jvm.Stand Jvm.Free Jvm.LawKit
section New
variable {p : Program} {l : Launch} {e : Env} {R : Room} {s : State} {m : MethodId} {args : Array Value} {below : List Frame} {meth : Method} {c : Code} {T : State} {locs : List Loc} {cells slots : Nat}
theorem retI (X : Stand p l e R s m args below meth c T locs cells slots) (hx : p.tables.exec = Jvm.exec) {pc : Nat} {Ls : Array Slot} {z : Int32} {rest : List Value} (hret : meth.sig.returnType = some .int) (hd : decode c.code pc = .ok (.ireturn, 1)) {fs : List Frame}
    (hl : ∀ (f : JFrame) (acts : List Action), f.method = m → f.locked = none → f.entered = [] → (doReturn e (T.setTop f) acts (some (.int z))).1 = T.setFrames fs) : Steps p.tables e below (T.setTop (mkF m pc Ls (.int z :: rest))) (T.setFrames fs) := by
  have hm' : T.vm.method? m = some meth := X.method'
  have hn : narrow .int (.int z) = .int z := rfl
  show Steps p.tables e below (T.setTop { method := m, pc := pc, locals := Ls, stack := _ :: rest, locked := none }) _
  jvm_step X.here [X.here.top, hx, hd, hm', hret, hn]
  first | (intro acts; rw [hl _ acts rfl rfl rfl]) | rw [hl _ _ rfl rfl rfl]
  exact Steps.refl _
end New
end Jvm.RoadKit
namespace Jvm.Pilot.@@N@@
open Jvm Jvm.ClassFile Sem Op Lib Jvm.Free Jvm.Stand Jvm.LawKit Jvm.RoadKit Bundle Jvm.Pilot.@@N@@.Jvm.D
abbrev own_Go (p : Program) (e : Env) (below : List Frame) (s : State) (Q : Option Value → Heap → List Loc → Prop) (cs ss : Nat) (a : State) : Prop := ∃ (t : State) (o : Outcome), Steps p.tables e below a t ∧ t.status = .running ∧ Ended t below o ∧ ∃ (v : Option Value) (L : List Loc), o = .returned v ∧ Q v t.heap L ∧ FrameEnd s o t L cs ss
section Own
variable {p : Program} {l : Launch} {e : Env} {R : Room} {s : State} {m : MethodId} {args : Array Value} {below : List Frame} {meth : Method} {c : Code} {T : State} {locs : List Loc} {cells slots : Nat} {Q : Option Value → Heap → List Loc → Prop} {cs ss : Nat}
theorem own_go {a b : State} (h : ∀ t, Steps p.tables e below b t → Steps p.tables e below a t) (g : own_Go p e below s Q cs ss b) : own_Go p e below s Q cs ss a := by
  obtain ⟨t, o, h1, h2⟩ := g
  exact ⟨t, o, h t h1, h2⟩
theorem own_end (X : Stand p l e R s m args below meth c T locs cells slots) (hlk : meth.locks = false) {v : Option Value} (hv : meth.sig.returnType = none → v = none) {a : State}
    (hs : ∀ fs, (∀ (f : JFrame) (acts : List Action), f.method = m → f.locked = none → f.entered = [] → (doReturn e (T.setTop f) acts v).1 = T.setFrames fs) → Steps p.tables e below a (T.setFrames fs))
    {h : Heap} (eT : T.heap = h) (hq : Q v h locs) (h1 : cells ≤ cs) (h2 : slots ≤ ss) : own_Go p e below s Q cs ss a := by
  obtain ⟨fs, hr, hrun, hended, hW, hsame⟩ := X.leave hv hlk
  subst eT
  exact ⟨_, _, hs fs hr, hrun, hended, _, _, rfl, hq, ⟨_, rfl⟩, hW, hsame.mono h1 h2⟩
end Own
theorem own_hin {n : Nat} {cl : Cell} {j : Int32} (S : cl.slots.size = n) (h : ¬ j < 0 ∧ j.toNatClampNeg < n) : ¬ (j < 0 ∨ cl.slots.size ≤ j.toNatClampNeg) := by
  rw [S]; exact fun q => q.elim h.1 (fun u => absurd h.2 (Nat.not_lt.mpr u))
theorem own_has {cl : Cell} {xs : List Int32} {n : Nat} (H : Has cl (xs.map Value.int) (.int 0)) (S : cl.slots.size = n) : ∀ i, i < n → cl.slots[i]? = some (.int (xs.getD i 0)) := by
  intro i hi
  rw [H i (by rw [S]; exact hi)]
  simp only [List.getD_eq_getElem?_getD, List.getElem?_map]
  cases xs[i]? <;> rfl
theorem own_hasL {cl : Cell} {xs : List Int64} {n : Nat} (H : Has cl (xs.map Value.long) (.long 0)) (S : cl.slots.size = n) : ∀ i, i < n → cl.slots[i]? = some (.long (xs.getD i 0)) := by
  intro i hi
  rw [H i (by rw [S]; exact hi)]
  simp only [List.getD_eq_getElem?_getD, List.getElem?_map]
  cases xs[i]? <;> rfl
theorem own_pg (x : Int32) : 0 ≤ (x &&& (2147483647 : Int32)).toInt := by
  rw [Jvm.Kit.i32_mask x 2147483647 (k := 31) (by decide) (by decide)]; omega
theorem own_ps (x : Int32) : 1 ≤ ((1 : Int32) + (x &&& (2147483647 : Int32)) % (100000 : Int32)).toInt ∧ ((1 : Int32) + (x &&& (2147483647 : Int32)) % (100000 : Int32)).toInt ≤ 100000 := by
  have h0 := own_pg x
  have h1 : ((x &&& (2147483647 : Int32)) % (100000 : Int32)).toInt = (x &&& (2147483647 : Int32)).toInt % 100000 := Jvm.Kit.i32_rem_nonneg h0
  have h2 : ((1 : Int32) + (x &&& (2147483647 : Int32)) % (100000 : Int32)).toInt = 1 + (x &&& (2147483647 : Int32)).toInt % 100000 := by
    rw [Jvm.Kit.i32_add (by rw [h1]; show _ ≤ (1 : Int) + _; omega) (by rw [h1]; show (1 : Int) + _ < _; omega), h1]; rfl
  rw [h2]; omega
theorem own_neg0 {x : Int32} (h : 0 ≤ x.toInt) : ¬ x < (0 : Int32) := by
  rw [Int32.lt_iff_toInt_lt]; show ¬ _ < (0 : Int); omega
theorem own_lt1 {x : Int32} (h : 1 ≤ x.toInt) : ¬ x < (1 : Int32) := by
  rw [Int32.lt_iff_toInt_lt]; show ¬ _ < (1 : Int); omega
theorem own_gt5 {x : Int32} (h : x.toInt ≤ 100000) : ¬ (100000 : Int32) < x := by
  rw [Int32.lt_iff_toInt_lt]; show ¬ (100000 : Int) < _; omega
theorem own_ne0 {x : Int32} (h : 1 ≤ x.toInt) : x.toInt64 ≠ 0 := by
  intro q
  have : x.toInt64.toInt = (0 : Int64).toInt := by rw [q]
  rw [Int32.toInt_toInt64] at this
  have e : (0 : Int64).toInt = 0 := rfl
  omega
theorem d1_0 : decode jdk_30_method_1_code 0 = .ok (.aload_n 0, 1) := by decide +kernel
theorem d1_1 : decode jdk_30_method_1_code 1 = .ok (.invokespecial 1, 3) := by decide +kernel
theorem d1_4 : decode jdk_30_method_1_code 4 = .ok (.return_, 1) := by decide +kernel
theorem pn_1 : plainName "java/lang/Record" = true := by first | (simp [plainName, overriddenIn]; done) | decide +kernel
theorem ef_1 (m : MethodId) (x0 : Addr) : entryFrame m #[(.ref x0)] 1 = mkF m 0 #[.val (.ref x0)] [] := by first | (simp [entryFrame, mkF, argsToLocals, Value.category]; done) | rfl
def Q1 (b1 : Addr) (h0 : Heap) (n0 : Nat) (v : Option Value) (h : Heap) (L : List Loc) : Prop := v = none ∧ Fr n0 L ∧ h = h0
set_option maxRecDepth 65536 in
set_option maxHeartbeats 40000000 in
theorem rm1 (l : Launch) (Z : State) (a0 : Array Value) (hw : ∀ d ∈ tables_1, d.before a0 Z = true) (ws : List Jvm.Cond) (b1 : Addr) (h0 : Heap) (n0 : Nat) (Z0 : n0 ≤ h0.size)  :
    MetFree l (⟨"java/lang/Record", "<init>", "()V"⟩ : MethodName) (head1 (Jvm.Cond.code (⟨"java/lang/Record", "<init>", "()V"⟩ : MethodName) jdk_30_method_1_code 1 none :: ws) ({ frames := 1, cells := 0, slots := 0, locals := 12 } : Room)) (fun a U => a = #[(.ref b1)] ∧ Z.Warmed39 U.vm ∧ U.heap = h0) (fun _ _ _ _ _ => True) (fun _ U o U' => ∃ v L, o = .returned v ∧ Q1 b1 h0 n0 v U'.heap L ∧ FrameEnd U o U' L ({ frames := 1, cells := 0, slots := 0, locals := 12 } : Room).cells ({ frames := 1, cells := 0, slots := 0, locals := 12 } : Room).slots) := by
  refine MetFree.of_bodySF (plainFor_of_name pn_1) hisR ?_
  intro p e s m args below meth c s₁ Bd hml0 hP hK
  obtain ⟨rfl, hZ, hh⟩ := hP
  have hx := Bd.exec
  have hby := Bd.bytes
  have hml : c.maxLocals = 1 := hml0
  have hown : s.vm.findClass "java/lang/Record" = some m.cls := findClass_of_methodNamed Bd.named
  have hnm := (name_of_methodNamed Bd.named Bd.method).1
  have X0 : Stand p l e ({ frames := 1, cells := 0, slots := 0, locals := 12 } : Room) s m #[(.ref b1)] below meth c s₁ [] 0 0 := Stand.of_body Bd
  have e0 : s₁.heap = h0 := by rw [← hh, Bd.state]; rfl
  have N0 := Fr.nil n0
  show own_Go p e below s (Q1 b1 h0 n0) ({ frames := 1, cells := 0, slots := 0, locals := 12 } : Room).cells ({ frames := 1, cells := 0, slots := 0, locals := 12 } : Room).slots (s₁.setTop (entryFrame m #[(.ref b1)] 1))
  refine own_go (b := s₁.setTop (mkF m 0 #[.val (.ref b1)] [])) (fun t k => castTop (ef_1 m b1) k) ?_
  obtain ⟨T1, X1, e1, st1⟩ := initO X0 hx hZ hown (hw _ (List.mem_of_getElem? (i := 14) rfl)) (hw _ (List.mem_of_getElem? (i := 15) rfl)) (hw _ (List.mem_of_getElem? (i := 16) rfl)) e0 (g := (mkF m 1 #[.val (.ref b1)] [(.ref b1)])) rfl (by rw [hml]; rfl) rfl (hb hby d1_1) (by decide) (W := 0) (by show 2 * 0 + _ ≤ _; exact Nat.le_of_eq rfl) (by decide)
  refine own_end X1 Bd.notSynchronized (v := none) (fun _ => rfl) (fun fs hr => ?_) e1 ?_ (by decide) (by decide)
  · show Steps p.tables e below (s₁.setTop (mkF m 0 #[.val (.ref b1)] [])) _
    refine XS.aloadN X0.here hx rfl (hb hby d1_0) rfl rfl ?_
    show Steps p.tables e below (s₁.setTop (mkF m 1 #[.val (.ref b1)] [(.ref b1)])) _
    refine st1 _ ?_
    show Steps p.tables e below (T1.setTop (mkF m 4 #[.val (.ref b1)] [])) _
    exact X1.returnOut hx Bd.returns (hb hby d1_4) hr
  · exact ⟨rfl, N0, rfl⟩
theorem pd__28_29V : parseMethodDescriptor "()V" = some ⟨[], none⟩ := by decide +kernel
theorem d2_0 : decode prog_25_method_1_code 0 = .ok (.aload_n 0, 1) := by decide +kernel
theorem d2_1 : decode prog_25_method_1_code 1 = .ok (.invokespecial 1, 3) := by decide +kernel
theorem d2_4 : decode prog_25_method_1_code 4 = .ok (.iload_n 1, 1) := by decide +kernel
theorem d2_5 : decode prog_25_method_1_code 5 = .ok (.ifCond .ge 17, 3) := by decide +kernel
theorem d2_8 : decode prog_25_method_1_code 8 = .ok (.new 7, 3) := by decide +kernel
theorem d2_11 : decode prog_25_method_1_code 11 = .ok (.dup, 1) := by decide +kernel
theorem d2_12 : decode prog_25_method_1_code 12 = .ok (.iload_n 1, 1) := by decide +kernel
theorem d2_13 : decode prog_25_method_1_code 13 = .ok (.invokedynamic 9, 5) := by decide +kernel
theorem d2_18 : decode prog_25_method_1_code 18 = .ok (.invokespecial 13, 3) := by decide +kernel
theorem d2_21 : decode prog_25_method_1_code 21 = .ok (.athrow, 1) := by decide +kernel
theorem d2_22 : decode prog_25_method_1_code 22 = .ok (.iload_n 2, 1) := by decide +kernel
theorem d2_23 : decode prog_25_method_1_code 23 = .ok (.iconst 1, 1) := by decide +kernel
theorem d2_24 : decode prog_25_method_1_code 24 = .ok (.if_icmp .lt 9, 3) := by decide +kernel
theorem d2_27 : decode prog_25_method_1_code 27 = .ok (.iload_n 2, 1) := by decide +kernel
theorem d2_28 : decode prog_25_method_1_code 28 = .ok (.ldc 18, 2) := by decide +kernel
theorem d2_30 : decode prog_25_method_1_code 30 = .ok (.if_icmp .le 17, 3) := by decide +kernel
theorem d2_33 : decode prog_25_method_1_code 33 = .ok (.new 7, 3) := by decide +kernel
theorem d2_36 : decode prog_25_method_1_code 36 = .ok (.dup, 1) := by decide +kernel
theorem d2_37 : decode prog_25_method_1_code 37 = .ok (.iload_n 2, 1) := by decide +kernel
theorem d2_38 : decode prog_25_method_1_code 38 = .ok (.invokedynamic 19, 5) := by decide +kernel
theorem d2_43 : decode prog_25_method_1_code 43 = .ok (.invokespecial 13, 3) := by decide +kernel
theorem d2_46 : decode prog_25_method_1_code 46 = .ok (.athrow, 1) := by decide +kernel
theorem d2_47 : decode prog_25_method_1_code 47 = .ok (.aload_n 0, 1) := by decide +kernel
theorem d2_48 : decode prog_25_method_1_code 48 = .ok (.iload_n 1, 1) := by decide +kernel
theorem d2_49 : decode prog_25_method_1_code 49 = .ok (.putfield 20, 3) := by decide +kernel
theorem d2_52 : decode prog_25_method_1_code 52 = .ok (.aload_n 0, 1) := by decide +kernel
theorem d2_53 : decode prog_25_method_1_code 53 = .ok (.iload_n 2, 1) := by decide +kernel
theorem d2_54 : decode prog_25_method_1_code 54 = .ok (.putfield 24, 3) := by decide +kernel
theorem d2_57 : decode prog_25_method_1_code 57 = .ok (.return_, 1) := by decide +kernel
theorem pn_2 : plainName "com/example/landrace_ledger/landraceledger/server/PageRequest" = true := by first | (simp [plainName, overriddenIn]; done) | decide +kernel
theorem ef_2 (m : MethodId) (x0 : Addr) (x1 : Int32) (x2 : Int32) : entryFrame m #[(.ref x0), (.int x1), (.int x2)] 3 = mkF m 0 #[.val (.ref x0), .val (.int x1), .val (.int x2)] [] := by first | (simp [entryFrame, mkF, argsToLocals, Value.category]; done) | rfl
def Q2 (Z : State) (b1 : Addr) (x1 : Int32) (x2 : Int32) (h0 : Heap) (n0 : Nat) (v : Option Value) (h : Heap) (L : List Loc) : Prop := v = none ∧ Fr n0 L ∧ Keep h0 h [b1] ∧ Exa Z h b1 "com/example/landrace_ledger/landraceledger/server/PageRequest" ∧ Fld Z h b1 "com/example/landrace_ledger/landraceledger/server/PageRequest" "page" "I" (.int x1) ∧ Fld Z h b1 "com/example/landrace_ledger/landraceledger/server/PageRequest" "pageSize" "I" (.int x2)
set_option maxRecDepth 65536 in
set_option maxHeartbeats 40000000 in
theorem rm2 (l : Launch) (Z : State) (a0 : Array Value) (hw : ∀ d ∈ tables_1, d.before a0 Z = true) (ws : List Jvm.Cond)  (b1 : Addr) (x1 : Int32) (x2 : Int32) (h0 : Heap) (n0 : Nat) (Z0 : n0 ≤ h0.size) (F_page : Fld Z h0 b1 "com/example/landrace_ledger/landraceledger/server/PageRequest" "page" "I" (.int (0 : Int32))) (F_pageSize : Fld Z h0 b1 "com/example/landrace_ledger/landraceledger/server/PageRequest" "pageSize" "I" (.int (0 : Int32))) (E_b1 : Exa Z h0 b1 "com/example/landrace_ledger/landraceledger/server/PageRequest") (lo_b1 : n0 ≤ b1) (hp1 : ¬ x1 < (0 : Int32)) (hp2 : ¬ x2 < (1 : Int32)) (hp3 : ¬ (100000 : Int32) < x2) :
    MetFree l (⟨"com/example/landrace_ledger/landraceledger/server/PageRequest", "<init>", "(II)V"⟩ : MethodName) (head1 (Jvm.Cond.code (⟨"com/example/landrace_ledger/landraceledger/server/PageRequest", "<init>", "(II)V"⟩ : MethodName) prog_25_method_1_code 3 none :: ws) ({ frames := 2, cells := 0, slots := 0, locals := 24 } : Room)) (fun a U => a = #[(.ref b1), (.int x1), (.int x2)] ∧ Z.Warmed39 U.vm ∧ U.heap = h0) (fun _ _ _ _ _ => True) (fun _ U o U' => ∃ v L, o = .returned v ∧ Q2 Z b1 x1 x2 h0 n0 v U'.heap L ∧ FrameEnd U o U' L ({ frames := 2, cells := 0, slots := 0, locals := 24 } : Room).cells ({ frames := 2, cells := 0, slots := 0, locals := 24 } : Room).slots) := by
  refine MetFree.of_bodySF (plainFor_of_name pn_2) hisR ?_
  intro p e s m args below meth c s₁ Bd hml0 hP hK
  obtain ⟨rfl, hZ, hh⟩ := hP
  have hx := Bd.exec
  have hby := Bd.bytes
  have hml : c.maxLocals = 3 := hml0
  have hown : s.vm.findClass "com/example/landrace_ledger/landraceledger/server/PageRequest" = some m.cls := findClass_of_methodNamed Bd.named
  have hnm := (name_of_methodNamed Bd.named Bd.method).1
  have X0 : Stand p l e ({ frames := 2, cells := 0, slots := 0, locals := 24 } : Room) s m #[(.ref b1), (.int x1), (.int x2)] below meth c s₁ [] 0 0 := Stand.of_body Bd
  have e0 : s₁.heap = h0 := by rw [← hh, Bd.state]; rfl
  have N0 := Fr.nil n0
  show own_Go p e below s (Q2 Z b1 x1 x2 h0 n0) ({ frames := 2, cells := 0, slots := 0, locals := 24 } : Room).cells ({ frames := 2, cells := 0, slots := 0, locals := 24 } : Room).slots (s₁.setTop (entryFrame m #[(.ref b1), (.int x1), (.int x2)] 3))
  refine own_go (b := s₁.setTop (mkF m 0 #[.val (.ref b1), .val (.int x1), .val (.int x2)] [])) (fun t k => castTop (ef_2 m b1 x1 x2) k) ?_
  have K0 := Keep.refl h0 [b1]
  obtain ⟨_, _, ⟨T1, uL1, uk1, un1⟩, -, X1, ⟨Lc1, hQ1, ul1, uy1, uz1⟩, st1⟩ := X0.specialBack hx (y := (⟨"java/lang/Record", "<init>", "()V"⟩ : MethodName)) rfl hown (mvT hZ (hw _ (List.mem_of_getElem? (i := 9) rfl))) (mvT hZ (hw _ (List.mem_of_getElem? (i := 10) rfl))) (mvT hZ (hw _ (List.mem_of_getElem? (i := 13) rfl))) (by decide) (backOf (W := 0) (rm1 l Z a0 hw [] b1 h0 n0 Z0 ) hZ (hw _ (List.mem_of_getElem? (i := 13) rfl)) (hw _ (List.mem_of_getElem? (i := 12) rfl)) (by decide) (by decide)) (g := (mkF m 1 #[.val (.ref b1), .val (.int x1), .val (.int x2)] [(.ref b1)])) rfl (by rw [hml]; rfl) (Steps.refl _) (a := b1) (argsL := []) (rest := []) (lenOf pd__28_29V rfl) rfl (by show 2 * 0 + _ ≤ _; exact Nat.le_of_eq rfl) (hb hby d2_1) (fun _ _ => ⟨rfl, e0, (by decide : 0 + 0 ≤ _), (by decide : 0 + 0 ≤ _)⟩)
  dsimp only [Pt.U, Pt.locs, Pt.cells, Pt.slots] at X1 ul1 uy1 uz1 st1 hQ1
  subst ul1 uy1 uz1
  obtain ⟨rfl, Nq1, e1⟩ := hQ1
  have N1 := Fr.app N0 Nq1
  have hc5_2 : ¬ (x1 < (0 : Int32)) := hp1
  have hc24_3 : ¬ (x2 < (1 : Int32)) := hp2
  have hc30_4 : ¬ ((100000 : Int32) < x2) := hp3
  obtain ⟨T5, h5, X5, e5, W5, st5⟩ := putF X1 hx hZ hown (host := "") (Or.inl (hw _ (List.mem_of_getElem? (i := 18) rfl))) Via.refl e1 F_page E_b1 (Or.inr ⟨(hw _ (List.mem_of_getElem? (i := 19) rfl)), rfl, hnm⟩) (hw _ (List.mem_of_getElem? (i := 4) rfl)) (ty := .int) (by decide) rfl rfl (g := (mkF m 49 #[.val (.ref b1), .val (.int x1), .val (.int x2)] [(.int x1), (.ref b1)])) rfl rfl (hb hby d2_49)
  have N5 := Fr.snoc X5 N1 lo_b1
  have K5 := K0.wr W5 (Or.inl (List.mem_of_getElem? (i := 0) rfl))
  have F6 : Fld Z h5 b1 "com/example/landrace_ledger/landraceledger/server/PageRequest" "page" "I" (.int x1) := F_page.same W5
  have F7 := F_pageSize.other W5 (Or.inr (slot_ne (Or.inr (hw _ (List.mem_of_getElem? (i := 21) rfl))) (Or.inr (hw _ (List.mem_of_getElem? (i := 19) rfl))) (by decide) (t := .int) (t' := .int) (by decide) (by decide)))
  have E8 := E_b1.wr W5
  have Z5 : n0 ≤ h5.size := by rw [W5.size]; exact Z0
  obtain ⟨T9, h9, X9, e9, W9, st9⟩ := putF X5 hx hZ hown (host := "") (Or.inl (hw _ (List.mem_of_getElem? (i := 20) rfl))) Via.refl e5 F7 E8 (Or.inr ⟨(hw _ (List.mem_of_getElem? (i := 21) rfl)), rfl, hnm⟩) (hw _ (List.mem_of_getElem? (i := 4) rfl)) (ty := .int) (by decide) rfl rfl (g := (mkF m 54 #[.val (.ref b1), .val (.int x1), .val (.int x2)] [(.int x2), (.ref b1)])) rfl rfl (hb hby d2_54)
  have N9 := Fr.snoc X9 N5 lo_b1
  have K9 := K5.wr W9 (Or.inl (List.mem_of_getElem? (i := 0) rfl))
  have F10 : Fld Z h9 b1 "com/example/landrace_ledger/landraceledger/server/PageRequest" "pageSize" "I" (.int x2) := F7.same W9
  have F11 := F6.other W9 (Or.inr (slot_ne (Or.inr (hw _ (List.mem_of_getElem? (i := 19) rfl))) (Or.inr (hw _ (List.mem_of_getElem? (i := 21) rfl))) (by decide) (t := .int) (t' := .int) (by decide) (by decide)))
  have E12 := E8.wr W9
  have Z9 : n0 ≤ h9.size := by rw [W9.size]; exact Z5
  refine own_end X9 Bd.notSynchronized (v := none) (fun _ => rfl) (fun fs hr => ?_) e9 ?_ (by decide) (by decide)
  · show Steps p.tables e below (s₁.setTop (mkF m 0 #[.val (.ref b1), .val (.int x1), .val (.int x2)] [])) _
    refine XS.aloadN X0.here hx rfl (hb hby d2_0) rfl rfl ?_
    show Steps p.tables e below (s₁.setTop (mkF m 1 #[.val (.ref b1), .val (.int x1), .val (.int x2)] [(.ref b1)])) _
    refine st1.trans ?_
    show Steps p.tables e below (T1.setTop (mkF m 4 #[.val (.ref b1), .val (.int x1), .val (.int x2)] [])) _
    refine XS.iloadN X1.here hx rfl (hb hby d2_4) rfl ?_
    show Steps p.tables e below (T1.setTop (mkF m 5 #[.val (.ref b1), .val (.int x1), .val (.int x2)] [(.int x1)])) _
    refine XS.ifYes X1.here hx rfl (pc0 := 5) (pc' := 22) rfl (hb hby d2_5) rfl ((if0 _ _).trans (flt hc5_2).2.1) (by decide) (by decide) ?_
    show Steps p.tables e below (T1.setTop (mkF m 22 #[.val (.ref b1), .val (.int x1), .val (.int x2)] [])) _
    refine XS.iloadN X1.here hx rfl (hb hby d2_22) rfl ?_
    show Steps p.tables e below (T1.setTop (mkF m 23 #[.val (.ref b1), .val (.int x1), .val (.int x2)] [(.int x2)])) _
    refine XS.iconst X1.here hx rfl (hb hby d2_23) ?_
    show Steps p.tables e below (T1.setTop (mkF m 24 #[.val (.ref b1), .val (.int x1), .val (.int x2)] [(.int (1 : Int32)), (.int x2)])) _
    refine XS.icmpNo X1.here hx rfl (hb hby d2_24) rfl (flt hc24_3).1 ?_
    show Steps p.tables e below (T1.setTop (mkF m 27 #[.val (.ref b1), .val (.int x1), .val (.int x2)] [])) _
    refine XS.iloadN X1.here hx rfl (hb hby d2_27) rfl ?_
    show Steps p.tables e below (T1.setTop (mkF m 28 #[.val (.ref b1), .val (.int x1), .val (.int x2)] [(.int x2)])) _
    refine X1.ldcI hx hown (mvT hZ (hw _ (List.mem_of_getElem? (i := 17) rfl))) rfl (hb hby d2_28) ?_
    show Steps p.tables e below (T1.setTop (mkF m 30 #[.val (.ref b1), .val (.int x1), .val (.int x2)] [(.int (100000 : Int32)), (.int x2)])) _
    refine XS.icmpYes X1.here hx rfl (pc0 := 30) (pc' := 47) rfl (hb hby d2_30) rfl (flt hc30_4).2.2.2 (by decide) (by decide) ?_
    show Steps p.tables e below (T1.setTop (mkF m 47 #[.val (.ref b1), .val (.int x1), .val (.int x2)] [])) _
    refine XS.aloadN X1.here hx rfl (hb hby d2_47) rfl rfl ?_
    show Steps p.tables e below (T1.setTop (mkF m 48 #[.val (.ref b1), .val (.int x1), .val (.int x2)] [(.ref b1)])) _
    refine XS.iloadN X1.here hx rfl (hb hby d2_48) rfl ?_
    show Steps p.tables e below (T1.setTop (mkF m 49 #[.val (.ref b1), .val (.int x1), .val (.int x2)] [(.int x1), (.ref b1)])) _
    refine st5 _ ?_
    show Steps p.tables e below (T5.setTop (mkF m 52 #[.val (.ref b1), .val (.int x1), .val (.int x2)] [])) _
    refine XS.aloadN X5.here hx rfl (hb hby d2_52) rfl rfl ?_
    show Steps p.tables e below (T5.setTop (mkF m 53 #[.val (.ref b1), .val (.int x1), .val (.int x2)] [(.ref b1)])) _
    refine XS.iloadN X5.here hx rfl (hb hby d2_53) rfl ?_
    show Steps p.tables e below (T5.setTop (mkF m 54 #[.val (.ref b1), .val (.int x1), .val (.int x2)] [(.int x2), (.ref b1)])) _
    refine st9 _ ?_
    show Steps p.tables e below (T9.setTop (mkF m 57 #[.val (.ref b1), .val (.int x1), .val (.int x2)] [])) _
    exact X9.returnOut hx Bd.returns (hb hby d2_57) hr
  · exact ⟨rfl, N9, K9, E12, F11, F10⟩
def own_total_0 (x2 : Int32) (y1 : Int64)  : Int64 :=
  if (y1 - (y1 / (x2.toInt64)) * (x2.toInt64)) = (0 : Int64) then
    ((y1 / (x2.toInt64)) + ((0 : Int32).toInt64))
  else
    ((y1 / (x2.toInt64)) + ((1 : Int32).toInt64))
theorem d3_0 : decode prog_25_method_3_code 0 = .ok (.lload_n 1, 1) := by decide +kernel
theorem d3_1 : decode prog_25_method_3_code 1 = .ok (.aload_n 0, 1) := by decide +kernel
theorem d3_2 : decode prog_25_method_3_code 2 = .ok (.getfield 24, 3) := by decide +kernel
theorem d3_5 : decode prog_25_method_3_code 5 = .ok (.i2l, 1) := by decide +kernel
theorem d3_6 : decode prog_25_method_3_code 6 = .ok (.ldiv, 1) := by decide +kernel
theorem d3_7 : decode prog_25_method_3_code 7 = .ok (.lload_n 1, 1) := by decide +kernel
theorem d3_8 : decode prog_25_method_3_code 8 = .ok (.aload_n 0, 1) := by decide +kernel
theorem d3_9 : decode prog_25_method_3_code 9 = .ok (.getfield 24, 3) := by decide +kernel
theorem d3_12 : decode prog_25_method_3_code 12 = .ok (.i2l, 1) := by decide +kernel
theorem d3_13 : decode prog_25_method_3_code 13 = .ok (.lrem, 1) := by decide +kernel
theorem d3_14 : decode prog_25_method_3_code 14 = .ok (.lconst 0, 1) := by decide +kernel
theorem d3_15 : decode prog_25_method_3_code 15 = .ok (.lcmp, 1) := by decide +kernel
theorem d3_16 : decode prog_25_method_3_code 16 = .ok (.ifCond .ne 7, 3) := by decide +kernel
theorem d3_19 : decode prog_25_method_3_code 19 = .ok (.iconst 0, 1) := by decide +kernel
theorem d3_20 : decode prog_25_method_3_code 20 = .ok (.goto 4, 3) := by decide +kernel
theorem d3_23 : decode prog_25_method_3_code 23 = .ok (.iconst 1, 1) := by decide +kernel
theorem d3_24 : decode prog_25_method_3_code 24 = .ok (.i2l, 1) := by decide +kernel
theorem d3_25 : decode prog_25_method_3_code 25 = .ok (.ladd, 1) := by decide +kernel
theorem d3_26 : decode prog_25_method_3_code 26 = .ok (.lreturn, 1) := by decide +kernel
theorem pn_3 : plainName "com/example/landrace_ledger/landraceledger/server/PageRequest" = true := by first | (simp [plainName, overriddenIn]; done) | decide +kernel
theorem ef_3 (m : MethodId) (x0 : Addr) (x1 : Int64) : entryFrame m #[(.ref x0), (.long x1)] 3 = mkF m 0 #[.val (.ref x0), .val (.long x1), .second] [] := by first | (simp [entryFrame, mkF, argsToLocals, Value.category]; done) | rfl
def Q3 (b1 : Addr) (x2 : Int32) (y1 : Int64) (h0 : Heap) (n0 : Nat) (v : Option Value) (h : Heap) (L : List Loc) : Prop := v = some (.long (own_total_0 x2 y1)) ∧ Fr n0 L ∧ h = h0
set_option maxRecDepth 65536 in
set_option maxHeartbeats 40000000 in
theorem rm3 (l : Launch) (Z : State) (a0 : Array Value) (hw : ∀ d ∈ tables_1, d.before a0 Z = true) (ws : List Jvm.Cond) (b1 : Addr) (x2 : Int32) (y1 : Int64) (h0 : Heap) (n0 : Nat) (Z0 : n0 ≤ h0.size) (F_x2 : Fld Z h0 b1 "com/example/landrace_ledger/landraceledger/server/PageRequest" "pageSize" "I" (.int x2)) (hz : x2.toInt64 ≠ 0) :
    MetFree l (⟨"com/example/landrace_ledger/landraceledger/server/PageRequest", "totalPages", "(J)J"⟩ : MethodName) (head1 (Jvm.Cond.code (⟨"com/example/landrace_ledger/landraceledger/server/PageRequest", "totalPages", "(J)J"⟩ : MethodName) prog_25_method_3_code 3 (some .long) :: ws) ({ frames := 0, cells := 0, slots := 0, locals := 0 } : Room)) (fun a U => a = #[(.ref b1), (.long y1)] ∧ Z.Warmed39 U.vm ∧ U.heap = h0) (fun _ _ _ _ _ => True) (fun _ U o U' => ∃ v L, o = .returned v ∧ Q3 b1 x2 y1 h0 n0 v U'.heap L ∧ FrameEnd U o U' L ({ frames := 0, cells := 0, slots := 0, locals := 0 } : Room).cells ({ frames := 0, cells := 0, slots := 0, locals := 0 } : Room).slots) := by
  refine MetFree.of_bodySF (plainFor_of_name pn_3) hisR ?_
  intro p e s m args below meth c s₁ Bd hml0 hP hK
  obtain ⟨rfl, hZ, hh⟩ := hP
  have hx := Bd.exec
  have hby := Bd.bytes
  have hml : c.maxLocals = 3 := hml0
  have hown : s.vm.findClass "com/example/landrace_ledger/landraceledger/server/PageRequest" = some m.cls := findClass_of_methodNamed Bd.named
  have hnm := (name_of_methodNamed Bd.named Bd.method).1
  have X0 : Stand p l e ({ frames := 0, cells := 0, slots := 0, locals := 0 } : Room) s m #[(.ref b1), (.long y1)] below meth c s₁ [] 0 0 := Stand.of_body Bd
  have e0 : s₁.heap = h0 := by rw [← hh, Bd.state]; rfl
  have N0 := Fr.nil n0
  show own_Go p e below s (Q3 b1 x2 y1 h0 n0) ({ frames := 0, cells := 0, slots := 0, locals := 0 } : Room).cells ({ frames := 0, cells := 0, slots := 0, locals := 0 } : Room).slots (s₁.setTop (entryFrame m #[(.ref b1), (.long y1)] 3))
  refine own_go (b := s₁.setTop (mkF m 0 #[.val (.ref b1), .val (.long y1), .second] [])) (fun t k => castTop (ef_3 m b1 y1) k) ?_
  obtain ⟨T1, X1, e1, st1⟩ := getF X0 hx hZ hown (host := "") (Or.inl (hw _ (List.mem_of_getElem? (i := 20) rfl))) Via.refl e0 F_x2 (g := (mkF m 2 #[.val (.ref b1), .val (.long y1), .second] [(.ref b1), (.long y1)])) rfl rfl (hb hby d3_2)
  obtain ⟨T2, X2, e2, st2⟩ := getF X1 hx hZ hown (host := "") (Or.inl (hw _ (List.mem_of_getElem? (i := 20) rfl))) Via.refl e1 F_x2 (g := (mkF m 9 #[.val (.ref b1), .val (.long y1), .second] [(.ref b1), (.long y1), (.long (y1 / (x2.toInt64)))])) rfl rfl (hb hby d3_9)
  refine own_go (b := T2.setTop (mkF m 16 #[.val (.ref b1), .val (.long y1), .second] [(.int (lcmpW (y1 - (y1 / (x2.toInt64)) * (x2.toInt64)) (0 : Int64))), (.long (y1 / (x2.toInt64)))])) (fun t k => ?_) ?_
  · show Steps p.tables e below (s₁.setTop (mkF m 0 #[.val (.ref b1), .val (.long y1), .second] [])) _
    refine XS.lloadN X0.here hx rfl (hb hby d3_0) rfl ?_
    show Steps p.tables e below (s₁.setTop (mkF m 1 #[.val (.ref b1), .val (.long y1), .second] [(.long y1)])) _
    refine XS.aloadN X0.here hx rfl (hb hby d3_1) rfl rfl ?_
    show Steps p.tables e below (s₁.setTop (mkF m 2 #[.val (.ref b1), .val (.long y1), .second] [(.ref b1), (.long y1)])) _
    refine st1 _ ?_
    show Steps p.tables e below (T1.setTop (mkF m 5 #[.val (.ref b1), .val (.long y1), .second] [(.int x2), (.long y1)])) _
    refine XS.i2l X1.here hx rfl (hb hby d3_5) rfl ?_
    show Steps p.tables e below (T1.setTop (mkF m 6 #[.val (.ref b1), .val (.long y1), .second] [(.long (x2.toInt64)), (.long y1)])) _
    refine XS.ldiv X1.here hx rfl (hb hby d3_6) rfl hz ?_
    show Steps p.tables e below (T1.setTop (mkF m 7 #[.val (.ref b1), .val (.long y1), .second] [(.long (y1 / (x2.toInt64)))])) _
    refine XS.lloadN X1.here hx rfl (hb hby d3_7) rfl ?_
    show Steps p.tables e below (T1.setTop (mkF m 8 #[.val (.ref b1), .val (.long y1), .second] [(.long y1), (.long (y1 / (x2.toInt64)))])) _
    refine XS.aloadN X1.here hx rfl (hb hby d3_8) rfl rfl ?_
    show Steps p.tables e below (T1.setTop (mkF m 9 #[.val (.ref b1), .val (.long y1), .second] [(.ref b1), (.long y1), (.long (y1 / (x2.toInt64)))])) _
    refine st2 _ ?_
    show Steps p.tables e below (T2.setTop (mkF m 12 #[.val (.ref b1), .val (.long y1), .second] [(.int x2), (.long y1), (.long (y1 / (x2.toInt64)))])) _
    refine XS.i2l X2.here hx rfl (hb hby d3_12) rfl ?_
    show Steps p.tables e below (T2.setTop (mkF m 13 #[.val (.ref b1), .val (.long y1), .second] [(.long (x2.toInt64)), (.long y1), (.long (y1 / (x2.toInt64)))])) _
    refine XS.lrem X2.here hx rfl (hb hby d3_13) rfl hz ?_
    show Steps p.tables e below (T2.setTop (mkF m 14 #[.val (.ref b1), .val (.long y1), .second] [(.long (y1 - (y1 / (x2.toInt64)) * (x2.toInt64))), (.long (y1 / (x2.toInt64)))])) _
    refine XS.lconst X2.here hx rfl (hb hby d3_14) ?_
    show Steps p.tables e below (T2.setTop (mkF m 15 #[.val (.ref b1), .val (.long y1), .second] [(.long (0 : Int64)), (.long (y1 - (y1 / (x2.toInt64)) * (x2.toInt64))), (.long (y1 / (x2.toInt64)))])) _
    refine XS.lcmp X2.here hx rfl (hb hby d3_15) rfl ?_
    show Steps p.tables e below (T2.setTop (mkF m 16 #[.val (.ref b1), .val (.long y1), .second] [(.int (lcmpW (y1 - (y1 / (x2.toInt64)) * (x2.toInt64)) (0 : Int64))), (.long (y1 / (x2.toInt64)))])) _
    exact k
  by_cases hc16 : (y1 - (y1 / (x2.toInt64)) * (x2.toInt64)) = (0 : Int64)
  · refine own_end X2 Bd.notSynchronized (v := some (.long ((y1 / (x2.toInt64)) + ((0 : Int32).toInt64)))) (fun h => by rw [Bd.returns] at h; cases h) (fun fs hr => ?_) e2 ?_ (by decide) (by decide)
    · show Steps p.tables e below (T2.setTop (mkF m 16 #[.val (.ref b1), .val (.long y1), .second] [(.int (lcmpW (y1 - (y1 / (x2.toInt64)) * (x2.toInt64)) (0 : Int64))), (.long (y1 / (x2.toInt64)))])) _
      refine XS.ifNo X2.here hx rfl (hb hby d3_16) rfl ((if0 _ _).trans (teq ((lw_eq (y1 - (y1 / (x2.toInt64)) * (x2.toInt64)) (0 : Int64)).mpr hc16)).2) ?_
      show Steps p.tables e below (T2.setTop (mkF m 19 #[.val (.ref b1), .val (.long y1), .second] [(.long (y1 / (x2.toInt64)))])) _
      refine XS.iconst X2.here hx rfl (hb hby d3_19) ?_
      show Steps p.tables e below (T2.setTop (mkF m 20 #[.val (.ref b1), .val (.long y1), .second] [(.int (0 : Int32)), (.long (y1 / (x2.toInt64)))])) _
      refine XS.goto X2.here hx rfl (pc0 := 20) (pc' := 24) rfl (hb hby d3_20) (by decide) (by decide) ?_
      show Steps p.tables e below (T2.setTop (mkF m 24 #[.val (.ref b1), .val (.long y1), .second] [(.int (0 : Int32)), (.long (y1 / (x2.toInt64)))])) _
      refine XS.i2l X2.here hx rfl (hb hby d3_24) rfl ?_
      show Steps p.tables e below (T2.setTop (mkF m 25 #[.val (.ref b1), .val (.long y1), .second] [(.long ((0 : Int32).toInt64)), (.long (y1 / (x2.toInt64)))])) _
      refine XS.ladd X2.here hx rfl (hb hby d3_25) rfl ?_
      show Steps p.tables e below (T2.setTop (mkF m 26 #[.val (.ref b1), .val (.long y1), .second] [(.long ((y1 / (x2.toInt64)) + ((0 : Int32).toInt64)))])) _
      exact X2.lreturnOut hx Bd.returns (hb hby d3_26) hr
    · exact ⟨by rw [own_total_0, if_pos hc16], N0, rfl⟩
  · refine own_end X2 Bd.notSynchronized (v := some (.long ((y1 / (x2.toInt64)) + ((1 : Int32).toInt64)))) (fun h => by rw [Bd.returns] at h; cases h) (fun fs hr => ?_) e2 ?_ (by decide) (by decide)
    · show Steps p.tables e below (T2.setTop (mkF m 16 #[.val (.ref b1), .val (.long y1), .second] [(.int (lcmpW (y1 - (y1 / (x2.toInt64)) * (x2.toInt64)) (0 : Int64))), (.long (y1 / (x2.toInt64)))])) _
      refine XS.ifYes X2.here hx rfl (pc0 := 16) (pc' := 23) rfl (hb hby d3_16) rfl ((if0 _ _).trans (feq (fun q => hc16 ((lw_eq (y1 - (y1 / (x2.toInt64)) * (x2.toInt64)) (0 : Int64)).mp q))).2) (by decide) (by decide) ?_
      show Steps p.tables e below (T2.setTop (mkF m 23 #[.val (.ref b1), .val (.long y1), .second] [(.long (y1 / (x2.toInt64)))])) _
      refine XS.iconst X2.here hx rfl (hb hby d3_23) ?_
      show Steps p.tables e below (T2.setTop (mkF m 24 #[.val (.ref b1), .val (.long y1), .second] [(.int (1 : Int32)), (.long (y1 / (x2.toInt64)))])) _
      refine XS.i2l X2.here hx rfl (hb hby d3_24) rfl ?_
      show Steps p.tables e below (T2.setTop (mkF m 25 #[.val (.ref b1), .val (.long y1), .second] [(.long ((1 : Int32).toInt64)), (.long (y1 / (x2.toInt64)))])) _
      refine XS.ladd X2.here hx rfl (hb hby d3_25) rfl ?_
      show Steps p.tables e below (T2.setTop (mkF m 26 #[.val (.ref b1), .val (.long y1), .second] [(.long ((y1 / (x2.toInt64)) + ((1 : Int32).toInt64)))])) _
      exact X2.lreturnOut hx Bd.returns (hb hby d3_26) hr
    · exact ⟨by rw [own_total_0, if_neg hc16], N0, rfl⟩
theorem own_cnt (x : Int64) : 0 ≤ (x &&& (9223372036854775807 : Int64)).toInt := by
  rw [Jvm.Kit.i64_mask x 9223372036854775807 (k := 63) (by decide) (by decide)]; omega
theorem own_dv {n : Int64} {b : Int32} (h1 : 0 ≤ n.toInt) (h2 : 1 ≤ b.toInt) : (n / b.toInt64).toInt = n.toInt / b.toInt := by
  rw [Jvm.Kit.i64_div (by rw [Int32.toInt_toInt64]; omega), Int32.toInt_toInt64, Int.tdiv_eq_ediv_of_nonneg h1]
theorem own_rm {n : Int64} {b : Int32} (h1 : 0 ≤ n.toInt) (h2 : 1 ≤ b.toInt) : (n - n / b.toInt64 * b.toInt64).toInt = n.toInt % b.toInt := by
  rw [Jvm.Kit.i64_rem_nonneg h1, Int32.toInt_toInt64]
/-- what totalPages gives, in plain numbers -/
theorem own_tot {n : Int64} {b : Int32} (h1 : 0 ≤ n.toInt) (h2 : 1 ≤ b.toInt) : ∃ q r d : Int, n.toInt = q * b.toInt + r ∧ 0 ≤ r ∧ r < b.toInt ∧ 0 ≤ q ∧ q ≤ n.toInt ∧ (n / b.toInt64).toInt = q ∧ ((r = 0 ∧ d = 0) ∨ (r ≠ 0 ∧ d = 1)) ∧ (own_total_0 b n).toInt = q + d := by
  have hr := n.toInt_lt
  have e0 : n.toInt = n.toInt / b.toInt * b.toInt + n.toInt % b.toInt := by rw [Int.mul_comm]; exact (Int.mul_ediv_add_emod _ _).symm
  have r0 : 0 ≤ n.toInt % b.toInt := Int.emod_nonneg _ (by omega)
  have r1 : n.toInt % b.toInt < b.toInt := Int.emod_lt_of_pos _ (by omega)
  have q0 : 0 ≤ n.toInt / b.toInt := Int.ediv_nonneg h1 (by omega)
  have q1 : n.toInt / b.toInt ≤ n.toInt := Int.ediv_le_self _ h1
  have dv := own_dv h1 h2
  have rm := own_rm h1 h2
  by_cases h : n - n / b.toInt64 * b.toInt64 = (0 : Int64)
  · have z : n.toInt % b.toInt = 0 := by rw [← rm, h]; rfl
    refine ⟨_, _, 0, e0, r0, r1, q0, q1, dv, Or.inl ⟨z, rfl⟩, ?_⟩
    rw [own_total_0, if_pos h, Jvm.Kit.i64_add (by rw [dv]; show _ ≤ _ + (0 : Int); omega) (by rw [dv]; show _ + (0 : Int) < _; omega), dv]; rfl
  · have z : n.toInt % b.toInt ≠ 0 := fun q => h (Int64.toInt_inj.mp (by rw [rm, q]; rfl))
    have q2 : n.toInt / b.toInt < 2 ^ 63 - 1 := by
      have := Int.mul_le_mul_of_nonneg_left (show (2 : Int) ≤ b.toInt by omega) q0
      omega
    refine ⟨_, _, 1, e0, r0, r1, q0, q1, dv, Or.inr ⟨z, rfl⟩, ?_⟩
    rw [own_total_0, if_neg h, Jvm.Kit.i64_add (by rw [dv]; show _ ≤ _ + (1 : Int); omega) (by rw [dv]; show _ + (1 : Int) < _; omega), dv]; rfl
theorem own_t1 {n : Int64} {b : Int32} (h1 : 0 ≤ n.toInt) (h2 : 1 ≤ b.toInt) : ¬ own_total_0 b n < (0 : Int64) := by
  obtain ⟨q, r, d, e, r0, r1, q0, q1, dv, dd, t⟩ := own_tot h1 h2
  rw [Int64.lt_iff_toInt_lt, t]; show ¬ _ < (0 : Int); omega
theorem own_t2 {n : Int64} {b : Int32} (h1 : 0 ≤ n.toInt) (h2 : 1 ≤ b.toInt) : ¬ n / b.toInt64 < own_total_0 b n - (1 : Int64) := by
  obtain ⟨q, r, d, e, r0, r1, q0, q1, dv, dd, t⟩ := own_tot h1 h2
  have hr := n.toInt_lt
  have hr2 := (own_total_0 b n).toInt_lt
  have : (own_total_0 b n - (1 : Int64)).toInt = q + d - 1 := by
    rw [Jvm.Kit.i64_sub (by rw [t]; show _ ≤ _ - (1 : Int); omega) (by show _ - (1 : Int) < _; omega), t]; rfl
  rw [Int64.lt_iff_toInt_lt, this, dv]; omega
theorem own_k {n : Int64} {b : Int32} (h1 : 0 ≤ n.toInt) (h2 : 1 ≤ b.toInt) (h3 : b.toInt ≤ 100000) : 0 ≤ (own_total_0 b n * b.toInt64 - n).toInt ∧ (own_total_0 b n * b.toInt64 - n).toInt < b.toInt := by
  obtain ⟨q, r, d, e, r0, r1, q0, q1, dv, dd, t⟩ := own_tot h1 h2
  have c1 := c_lmul (own_total_0 b n) b.toInt64
  have c2 := c_lsub (own_total_0 b n * b.toInt64) n
  have g := rng64 (own_total_0 b n * b.toInt64 - n)
  rw [t, Int32.toInt_toInt64, Int.add_mul] at c1
  generalize q * b.toInt = M at *
  generalize (own_total_0 b n * b.toInt64 - n).toInt = B at *
  generalize (own_total_0 b n * b.toInt64).toInt = A at *
  rcases dd with ⟨z, rfl⟩ | ⟨z, rfl⟩
  · omega
  · omega
theorem own_t3 {n : Int64} {b : Int32} (h1 : 0 ≤ n.toInt) (h2 : 1 ≤ b.toInt) (h3 : b.toInt ≤ 100000) : ¬ own_total_0 b n * b.toInt64 - n < (0 : Int64) := by
  have := own_k h1 h2 h3
  rw [Int64.lt_iff_toInt_lt]; show ¬ _ < (0 : Int); omega
theorem own_t4 {n : Int64} {b : Int32} (h1 : 0 ≤ n.toInt) (h2 : 1 ≤ b.toInt) (h3 : b.toInt ≤ 100000) : own_total_0 b n * b.toInt64 - n < b.toInt64 := by
  have := own_k h1 h2 h3
  rw [Int64.lt_iff_toInt_lt, Int32.toInt_toInt64]; omega
theorem pd__28II_29V : parseMethodDescriptor "(II)V" = some ⟨[.int, .int], none⟩ := by decide +kernel
theorem pd__28J_29J : parseMethodDescriptor "(J)J" = some ⟨[.long], some .long⟩ := by decide +kernel
theorem pn_0 : plainName "com/example/landrace_ledger/landraceledger/server/PageRequestTotalPagesPinLaw" = true := by first | (simp [plainName, overriddenIn]; done) | decide +kernel
theorem ef_0 (m : MethodId) (x0 : Int32) (x1 : Int32) (x2 : Int64) : entryFrame m #[(.int x0), (.int x1), (.long x2)] maxLocals = mkF m 0 #[.val (.int x0), .val (.int x1), .val (.long x2), .second, .unset, .unset, .unset, .unset, .unset, .unset, .unset, .unset, .unset] [] := by first | (simp [entryFrame, mkF, argsToLocals, Value.category, maxLocals]; done) | rfl
def Q0 (p1 : Int32) (p2 : Int32) (p3 : Int64) (h0 : Heap) (n0 : Nat) (v : Option Value) (h : Heap) (L : List Loc) : Prop := v = some (.int 1) ∧ Fr n0 L
set_option maxRecDepth 65536 in
set_option maxHeartbeats 40000000 in
theorem rm0 (l : Launch) (Z : State) (a0 : Array Value) (hw : ∀ d ∈ tables_1, d.before a0 Z = true) (ws : List Jvm.Cond) (p1 : Int32) (p2 : Int32) (p3 : Int64) (h0 : Heap) (n0 : Nat) (Z0 : n0 ≤ h0.size)  :
    MetFree l x (head1 (Jvm.Cond.code x code maxLocals ret :: ws) room_1) (fun a U => a = #[(.int p1), (.int p2), (.long p3)] ∧ Z.Warmed39 U.vm ∧ U.heap = h0) (fun _ _ _ _ _ => True) (fun _ U o U' => ∃ v L, o = .returned v ∧ Q0 p1 p2 p3 h0 n0 v U'.heap L ∧ FrameEnd U o U' L 16 128) := by
  refine MetFree.of_bodySF (plainFor_of_name pn_0) hisR ?_
  intro p e s m args below meth c s₁ Bd hml0 hP hK
  obtain ⟨rfl, hZ, hh⟩ := hP
  have hx := Bd.exec
  have hby := Bd.bytes
  have hml : c.maxLocals = 13 := hml0
  have hown : s.vm.findClass "com/example/landrace_ledger/landraceledger/server/PageRequestTotalPagesPinLaw" = some m.cls := findClass_of_methodNamed Bd.named
  have hnm := (name_of_methodNamed Bd.named Bd.method).1
  have X0 : Stand p l e room_1 s m #[(.int p1), (.int p2), (.long p3)] below meth c s₁ [] 0 0 := Stand.of_body Bd
  have e0 : s₁.heap = h0 := by rw [← hh, Bd.state]; rfl
  have N0 := Fr.nil n0
  show own_Go p e below s (Q0 p1 p2 p3 h0 n0) 16 128 (s₁.setTop (entryFrame m #[(.int p1), (.int p2), (.long p3)] maxLocals))
  refine own_go (b := s₁.setTop (mkF m 0 #[.val (.int p1), .val (.int p2), .val (.long p3), .second, .unset, .unset, .unset, .unset, .unset, .unset, .unset, .unset, .unset] [])) (fun t k => castTop (ef_0 m p1 p2 p3) k) ?_
  refine own_go (b := s₁.setTop (mkF m 24 #[.val (.int p1), .val (.int p2), .val (.long p3), .second, .val (.int (p1 &&& (2147483647 : Int32))), .val (.int ((1 : Int32) + ((p2 &&& (2147483647 : Int32)) % (100000 : Int32)))), .val (.long (p3 &&& (9223372036854775807 : Int64))), .second, .unset, .unset, .unset, .unset, .unset] [])) (fun t k => ?_) ?_
  · show Steps p.tables e below (s₁.setTop (mkF m 0 #[.val (.int p1), .val (.int p2), .val (.long p3), .second, .unset, .unset, .unset, .unset, .unset, .unset, .unset, .unset, .unset] [])) _
    refine XS.iloadN X0.here hx rfl (hb hby at_0) rfl ?_
    show Steps p.tables e below (s₁.setTop (mkF m 1 #[.val (.int p1), .val (.int p2), .val (.long p3), .second, .unset, .unset, .unset, .unset, .unset, .unset, .unset, .unset, .unset] [(.int p1)])) _
    refine X0.ldcI hx hown (mvT hZ (hw _ (List.mem_of_getElem? (i := 0) rfl))) rfl (hb hby at_1) ?_
    show Steps p.tables e below (s₁.setTop (mkF m 3 #[.val (.int p1), .val (.int p2), .val (.long p3), .second, .unset, .unset, .unset, .unset, .unset, .unset, .unset, .unset, .unset] [(.int (2147483647 : Int32)), (.int p1)])) _
    refine XS.iand X0.here hx rfl (hb hby at_3) rfl ?_
    show Steps p.tables e below (s₁.setTop (mkF m 4 #[.val (.int p1), .val (.int p2), .val (.long p3), .second, .unset, .unset, .unset, .unset, .unset, .unset, .unset, .unset, .unset] [(.int (p1 &&& (2147483647 : Int32)))])) _
    refine XS.istore X0.here hx rfl (hb hby at_4) rfl (l' := #[.val (.int p1), .val (.int p2), .val (.long p3), .second, .val (.int (p1 &&& (2147483647 : Int32))), .unset, .unset, .unset, .unset, .unset, .unset, .unset, .unset]) rfl ?_
    show Steps p.tables e below (s₁.setTop (mkF m 6 #[.val (.int p1), .val (.int p2), .val (.long p3), .second, .val (.int (p1 &&& (2147483647 : Int32))), .unset, .unset, .unset, .unset, .unset, .unset, .unset, .unset] [])) _
    refine XS.iconst X0.here hx rfl (hb hby at_6) ?_
    show Steps p.tables e below (s₁.setTop (mkF m 7 #[.val (.int p1), .val (.int p2), .val (.long p3), .second, .val (.int (p1 &&& (2147483647 : Int32))), .unset, .unset, .unset, .unset, .unset, .unset, .unset, .unset] [(.int (1 : Int32))])) _
    refine XS.iloadN X0.here hx rfl (hb hby at_7) rfl ?_
    show Steps p.tables e below (s₁.setTop (mkF m 8 #[.val (.int p1), .val (.int p2), .val (.long p3), .second, .val (.int (p1 &&& (2147483647 : Int32))), .unset, .unset, .unset, .unset, .unset, .unset, .unset, .unset] [(.int p2), (.int (1 : Int32))])) _
    refine X0.ldcI hx hown (mvT hZ (hw _ (List.mem_of_getElem? (i := 0) rfl))) rfl (hb hby at_8) ?_
    show Steps p.tables e below (s₁.setTop (mkF m 10 #[.val (.int p1), .val (.int p2), .val (.long p3), .second, .val (.int (p1 &&& (2147483647 : Int32))), .unset, .unset, .unset, .unset, .unset, .unset, .unset, .unset] [(.int (2147483647 : Int32)), (.int p2), (.int (1 : Int32))])) _
    refine XS.iand X0.here hx rfl (hb hby at_10) rfl ?_
    show Steps p.tables e below (s₁.setTop (mkF m 11 #[.val (.int p1), .val (.int p2), .val (.long p3), .second, .val (.int (p1 &&& (2147483647 : Int32))), .unset, .unset, .unset, .unset, .unset, .unset, .unset, .unset] [(.int (p2 &&& (2147483647 : Int32))), (.int (1 : Int32))])) _
    refine X0.ldcI hx hown (mvT hZ (hw _ (List.mem_of_getElem? (i := 1) rfl))) rfl (hb hby at_11) ?_
    show Steps p.tables e below (s₁.setTop (mkF m 13 #[.val (.int p1), .val (.int p2), .val (.long p3), .second, .val (.int (p1 &&& (2147483647 : Int32))), .unset, .unset, .unset, .unset, .unset, .unset, .unset, .unset] [(.int (100000 : Int32)), (.int (p2 &&& (2147483647 : Int32))), (.int (1 : Int32))])) _
    refine iremM X0 hx rfl (hb hby at_13) rfl (by decide) ?_
    show Steps p.tables e below (s₁.setTop (mkF m 14 #[.val (.int p1), .val (.int p2), .val (.long p3), .second, .val (.int (p1 &&& (2147483647 : Int32))), .unset, .unset, .unset, .unset, .unset, .unset, .unset, .unset] [(.int ((p2 &&& (2147483647 : Int32)) % (100000 : Int32))), (.int (1 : Int32))])) _
    refine XS.iadd X0.here hx rfl (hb hby at_14) rfl ?_
    show Steps p.tables e below (s₁.setTop (mkF m 15 #[.val (.int p1), .val (.int p2), .val (.long p3), .second, .val (.int (p1 &&& (2147483647 : Int32))), .unset, .unset, .unset, .unset, .unset, .unset, .unset, .unset] [(.int ((1 : Int32) + ((p2 &&& (2147483647 : Int32)) % (100000 : Int32))))])) _
    refine XS.istore X0.here hx rfl (hb hby at_15) rfl (l' := #[.val (.int p1), .val (.int p2), .val (.long p3), .second, .val (.int (p1 &&& (2147483647 : Int32))), .val (.int ((1 : Int32) + ((p2 &&& (2147483647 : Int32)) % (100000 : Int32)))), .unset, .unset, .unset, .unset, .unset, .unset, .unset]) rfl ?_
    show Steps p.tables e below (s₁.setTop (mkF m 17 #[.val (.int p1), .val (.int p2), .val (.long p3), .second, .val (.int (p1 &&& (2147483647 : Int32))), .val (.int ((1 : Int32) + ((p2 &&& (2147483647 : Int32)) % (100000 : Int32)))), .unset, .unset, .unset, .unset, .unset, .unset, .unset] [])) _
    refine XS.lloadN X0.here hx rfl (hb hby at_17) rfl ?_
    show Steps p.tables e below (s₁.setTop (mkF m 18 #[.val (.int p1), .val (.int p2), .val (.long p3), .second, .val (.int (p1 &&& (2147483647 : Int32))), .val (.int ((1 : Int32) + ((p2 &&& (2147483647 : Int32)) % (100000 : Int32)))), .unset, .unset, .unset, .unset, .unset, .unset, .unset] [(.long p3)])) _
    refine X0.ldc2J hx hown (mvT hZ (hw _ (List.mem_of_getElem? (i := 2) rfl))) rfl (hb hby at_18) ?_
    show Steps p.tables e below (s₁.setTop (mkF m 21 #[.val (.int p1), .val (.int p2), .val (.long p3), .second, .val (.int (p1 &&& (2147483647 : Int32))), .val (.int ((1 : Int32) + ((p2 &&& (2147483647 : Int32)) % (100000 : Int32)))), .unset, .unset, .unset, .unset, .unset, .unset, .unset] [(.long (9223372036854775807 : Int64)), (.long p3)])) _
    refine XS.land X0.here hx rfl (hb hby at_21) rfl ?_
    show Steps p.tables e below (s₁.setTop (mkF m 22 #[.val (.int p1), .val (.int p2), .val (.long p3), .second, .val (.int (p1 &&& (2147483647 : Int32))), .val (.int ((1 : Int32) + ((p2 &&& (2147483647 : Int32)) % (100000 : Int32)))), .unset, .unset, .unset, .unset, .unset, .unset, .unset] [(.long (p3 &&& (9223372036854775807 : Int64)))])) _
    refine XS.lstore X0.here hx rfl (hb hby at_22) rfl (l' := #[.val (.int p1), .val (.int p2), .val (.long p3), .second, .val (.int (p1 &&& (2147483647 : Int32))), .val (.int ((1 : Int32) + ((p2 &&& (2147483647 : Int32)) % (100000 : Int32)))), .val (.long (p3 &&& (9223372036854775807 : Int64))), .second, .unset, .unset, .unset, .unset, .unset]) rfl ?_
    show Steps p.tables e below (s₁.setTop (mkF m 24 #[.val (.int p1), .val (.int p2), .val (.long p3), .second, .val (.int (p1 &&& (2147483647 : Int32))), .val (.int ((1 : Int32) + ((p2 &&& (2147483647 : Int32)) % (100000 : Int32)))), .val (.long (p3 &&& (9223372036854775807 : Int64))), .second, .unset, .unset, .unset, .unset, .unset] [])) _
    exact k
  obtain ⟨pg, hpg⟩ : ∃ z : Int32, z = (p1 &&& (2147483647 : Int32)) := ⟨_, rfl⟩
  rw [← hpg]
  obtain ⟨ps, hps⟩ : ∃ z : Int32, z = ((1 : Int32) + ((p2 &&& (2147483647 : Int32)) % (100000 : Int32))) := ⟨_, rfl⟩
  rw [← hps]
  obtain ⟨ct, hct⟩ : ∃ z : Int64, z = (p3 &&& (9223372036854775807 : Int64)) := ⟨_, rfl⟩
  rw [← hct]
  have q1 : 0 ≤ pg.toInt := by rw [hpg]; exact own_pg _
  have q2 : 1 ≤ ps.toInt ∧ ps.toInt ≤ 100000 := by rw [hps]; exact own_ps _
  have q3 : 0 ≤ ct.toInt := by rw [hct]; exact own_cnt _
  obtain ⟨T1, h1, X1, e1, E1, A1, D1, -, st1⟩ := newO X0 hx hZ hown (hw _ (List.mem_of_getElem? (i := 3) rfl)) (hw _ (List.mem_of_getElem? (i := 4) rfl)) (hw _ (List.mem_of_getElem? (i := 5) rfl)) e0 (g := (mkF m 24 #[.val (.int p1), .val (.int p2), .val (.long p3), .second, .val (.int pg), .val (.int ps), .val (.long ct), .second, .unset, .unset, .unset, .unset, .unset] [])) rfl (hb hby at_24) (by decide) (by decide)
  obtain ⟨a1, ga1⟩ : ∃ z, z = h0.size := ⟨_, rfl⟩
  rw [← ga1] at A1 D1 st1
  have lo1 : n0 ≤ a1 := Nat.le_trans Z0 (Nat.le_of_eq ga1.symm)
  have Z1 : n0 ≤ h1.size := Nat.le_trans Z0 E1.1
  have F2 : Fld Z h1 a1 "com/example/landrace_ledger/landraceledger/server/PageRequest" "page" "I" (.int (0 : Int32)) := D1 (Or.inr (hw _ (List.mem_of_getElem? (i := 19) rfl))) (ty := .int) (by decide)
  have F3 : Fld Z h1 a1 "com/example/landrace_ledger/landraceledger/server/PageRequest" "pageSize" "I" (.int (0 : Int32)) := D1 (Or.inr (hw _ (List.mem_of_getElem? (i := 21) rfl))) (ty := .int) (by decide)
  obtain ⟨_, _, ⟨T4, uL4, uk4, un4⟩, -, X4, ⟨Lc4, hQ4, ul4, uy4, uz4⟩, st4⟩ := X1.specialBack hx (y := (⟨"com/example/landrace_ledger/landraceledger/server/PageRequest", "<init>", "(II)V"⟩ : MethodName)) rfl hown (mvT hZ (hw _ (List.mem_of_getElem? (i := 6) rfl))) (mvT hZ (hw _ (List.mem_of_getElem? (i := 7) rfl))) (mvT hZ (hw _ (List.mem_of_getElem? (i := 8) rfl))) (by decide) (backOf (W := 1) (rm2 l Z a0 hw [] a1 pg ps h1 n0 Z1 F2 F3 A1 lo1 (own_neg0 q1) (own_lt1 q2.1) (own_gt5 q2.2)) hZ (hw _ (List.mem_of_getElem? (i := 8) rfl)) (hw _ (List.mem_of_getElem? (i := 5) rfl)) (by decide) (by decide)) (g := (mkF m 32 #[.val (.int p1), .val (.int p2), .val (.long p3), .second, .val (.int pg), .val (.int ps), .val (.long ct), .second, .unset, .unset, .unset, .unset, .unset] [(.int ps), (.int pg), (.ref a1), (.ref a1)])) rfl (by rw [hml]; rfl) (Steps.refl _) (a := a1) (argsL := [(.int pg), (.int ps)]) (rest := [(.ref a1)]) (lenOf pd__28II_29V rfl) rfl (by show 2 * 0 + _ ≤ _; exact Nat.le_of_eq rfl) (hb hby at_32) (fun _ _ => ⟨rfl, e1, (by decide : 1 + 0 ≤ _), (by decide : 2 + 0 ≤ _)⟩)
  dsimp only [Pt.U, Pt.locs, Pt.cells, Pt.slots] at X4 ul4 uy4 uz4 st4 hQ4
  subst ul4 uy4 uz4
  obtain ⟨rfl, Nq4, K4, Ea4, Fa4_page, Fa4_pageSize⟩ := hQ4
  have Z4 : n0 ≤ T4.heap.size := Nat.le_trans Z1 K4.1
  have N4 := Fr.app N0 Nq4
  obtain ⟨cq5, kq5, qa5, qb5, qc5⟩ := isOf hZ rfl Ea4
  obtain ⟨_, _, ⟨T5, uL5, uk5, un5⟩, -, X5, ⟨Lc5, hQ5, ul5, uy5, uz5⟩, st5⟩ := X4.virtualBack hx (y := (⟨"com/example/landrace_ledger/landraceledger/server/PageRequest", "totalPages", "(J)J"⟩ : MethodName)) (z := (⟨"com/example/landrace_ledger/landraceledger/server/PageRequest", "totalPages", "(J)J"⟩ : MethodName)) hown (mvT hZ (hw _ (List.mem_of_getElem? (i := 22) rfl))) (mvT hZ (hw _ (List.mem_of_getElem? (i := 23) rfl))) (notFace_of_selects (args := #[]) (mvT hZ (hw _ (List.mem_of_getElem? (i := 25) rfl)))) (mvT hZ (hw _ (List.mem_of_getElem? (i := 25) rfl))) (mvT hZ (hw _ (List.mem_of_getElem? (i := 24) rfl))) (by decide) (backOf (W := 0) (rm3 l Z a0 hw [] a1 ps ct T4.heap n0 Z4 Fa4_pageSize (own_ne0 q2.1)) hZ (hw _ (List.mem_of_getElem? (i := 26) rfl)) (hw _ (List.mem_of_getElem? (i := 5) rfl)) (by decide) (by decide)) qa5 qc5 (g := (mkF m 41 #[.val (.int p1), .val (.int p2), .val (.long p3), .second, .val (.int pg), .val (.int ps), .val (.long ct), .second, .val (.ref a1), .unset, .unset, .unset, .unset] [(.long ct), (.ref a1)])) rfl (by rw [hml]; rfl) (Steps.refl _) (argsL := [(.long ct)]) (rest := []) (lenOf pd__28J_29J rfl) rfl (by show 2 * 0 + _ ≤ _; exact Nat.le_of_eq rfl) (hb hby at_41) (fun _ _ => ⟨rfl, rfl, (by decide : 1 + 0 ≤ _), (by decide : 2 + 0 ≤ _)⟩)
  dsimp only [Pt.U, Pt.locs, Pt.cells, Pt.slots] at X5 ul5 uy5 uz5 st5 hQ5
  subst ul5 uy5 uz5
  obtain ⟨rfl, Nq5, e5⟩ := hQ5
  have N5 := Fr.app N4 Nq5
  have hc50_6 : ¬ ((own_total_0 ps ct) < (0 : Int64)) := own_t1 q3 q2.1
  have hc66_7 : ¬ ((ct / (ps.toInt64)) < ((own_total_0 ps ct) - (1 : Int64))) := own_t2 q3 q2.1
  have hc86_8 : ¬ ((((own_total_0 ps ct) * (ps.toInt64)) - ct) < (0 : Int64)) := own_t3 q3 q2.1 q2.2
  have hc95_9 : (((own_total_0 ps ct) * (ps.toInt64)) - ct) < (ps.toInt64) := own_t4 q3 q2.1 q2.2
  refine own_end X5 Bd.notSynchronized (v := some (.int (1 : Int32))) (fun h => by rw [Bd.returns] at h; cases h) (fun fs hr => ?_) e5 ?_ (by decide) (by decide)
  · show Steps p.tables e below (s₁.setTop (mkF m 24 #[.val (.int p1), .val (.int p2), .val (.long p3), .second, .val (.int pg), .val (.int ps), .val (.long ct), .second, .unset, .unset, .unset, .unset, .unset] [])) _
    refine st1 _ ?_
    show Steps p.tables e below (T1.setTop (mkF m 27 #[.val (.int p1), .val (.int p2), .val (.long p3), .second, .val (.int pg), .val (.int ps), .val (.long ct), .second, .unset, .unset, .unset, .unset, .unset] [(.ref a1)])) _
    refine XS.dup X1.here hx rfl (hb hby at_27) rfl rfl ?_
    show Steps p.tables e below (T1.setTop (mkF m 28 #[.val (.int p1), .val (.int p2), .val (.long p3), .second, .val (.int pg), .val (.int ps), .val (.long ct), .second, .unset, .unset, .unset, .unset, .unset] [(.ref a1), (.ref a1)])) _
    refine XS.iload X1.here hx rfl (hb hby at_28) rfl ?_
    show Steps p.tables e below (T1.setTop (mkF m 30 #[.val (.int p1), .val (.int p2), .val (.long p3), .second, .val (.int pg), .val (.int ps), .val (.long ct), .second, .unset, .unset, .unset, .unset, .unset] [(.int pg), (.ref a1), (.ref a1)])) _
    refine XS.iload X1.here hx rfl (hb hby at_30) rfl ?_
    show Steps p.tables e below (T1.setTop (mkF m 32 #[.val (.int p1), .val (.int p2), .val (.long p3), .second, .val (.int pg), .val (.int ps), .val (.long ct), .second, .unset, .unset, .unset, .unset, .unset] [(.int ps), (.int pg), (.ref a1), (.ref a1)])) _
    refine st4.trans ?_
    show Steps p.tables e below (T4.setTop (mkF m 35 #[.val (.int p1), .val (.int p2), .val (.long p3), .second, .val (.int pg), .val (.int ps), .val (.long ct), .second, .unset, .unset, .unset, .unset, .unset] [(.ref a1)])) _
    refine XS.astore X4.here hx rfl (hb hby at_35) rfl rfl (l' := #[.val (.int p1), .val (.int p2), .val (.long p3), .second, .val (.int pg), .val (.int ps), .val (.long ct), .second, .val (.ref a1), .unset, .unset, .unset, .unset]) rfl ?_
    show Steps p.tables e below (T4.setTop (mkF m 37 #[.val (.int p1), .val (.int p2), .val (.long p3), .second, .val (.int pg), .val (.int ps), .val (.long ct), .second, .val (.ref a1), .unset, .unset, .unset, .unset] [])) _
    refine XS.aload X4.here hx rfl (hb hby at_37) rfl rfl ?_
    show Steps p.tables e below (T4.setTop (mkF m 39 #[.val (.int p1), .val (.int p2), .val (.long p3), .second, .val (.int pg), .val (.int ps), .val (.long ct), .second, .val (.ref a1), .unset, .unset, .unset, .unset] [(.ref a1)])) _
    refine XS.lload X4.here hx rfl (hb hby at_39) rfl ?_
    show Steps p.tables e below (T4.setTop (mkF m 41 #[.val (.int p1), .val (.int p2), .val (.long p3), .second, .val (.int pg), .val (.int ps), .val (.long ct), .second, .val (.ref a1), .unset, .unset, .unset, .unset] [(.long ct), (.ref a1)])) _
    refine st5.trans ?_
    show Steps p.tables e below (T5.setTop (mkF m 44 #[.val (.int p1), .val (.int p2), .val (.long p3), .second, .val (.int pg), .val (.int ps), .val (.long ct), .second, .val (.ref a1), .unset, .unset, .unset, .unset] [(.long (own_total_0 ps ct))])) _
    refine XS.lstore X5.here hx rfl (hb hby at_44) rfl (l' := #[.val (.int p1), .val (.int p2), .val (.long p3), .second, .val (.int pg), .val (.int ps), .val (.long ct), .second, .val (.ref a1), .val (.long (own_total_0 ps ct)), .second, .unset, .unset]) rfl ?_
    show Steps p.tables e below (T5.setTop (mkF m 46 #[.val (.int p1), .val (.int p2), .val (.long p3), .second, .val (.int pg), .val (.int ps), .val (.long ct), .second, .val (.ref a1), .val (.long (own_total_0 ps ct)), .second, .unset, .unset] [])) _
    refine XS.lload X5.here hx rfl (hb hby at_46) rfl ?_
    show Steps p.tables e below (T5.setTop (mkF m 48 #[.val (.int p1), .val (.int p2), .val (.long p3), .second, .val (.int pg), .val (.int ps), .val (.long ct), .second, .val (.ref a1), .val (.long (own_total_0 ps ct)), .second, .unset, .unset] [(.long (own_total_0 ps ct))])) _
    refine XS.lconst X5.here hx rfl (hb hby at_48) ?_
    show Steps p.tables e below (T5.setTop (mkF m 49 #[.val (.int p1), .val (.int p2), .val (.long p3), .second, .val (.int pg), .val (.int ps), .val (.long ct), .second, .val (.ref a1), .val (.long (own_total_0 ps ct)), .second, .unset, .unset] [(.long (0 : Int64)), (.long (own_total_0 ps ct))])) _
    refine XS.lcmp X5.here hx rfl (hb hby at_49) rfl ?_
    show Steps p.tables e below (T5.setTop (mkF m 50 #[.val (.int p1), .val (.int p2), .val (.long p3), .second, .val (.int pg), .val (.int ps), .val (.long ct), .second, .val (.ref a1), .val (.long (own_total_0 ps ct)), .second, .unset, .unset] [(.int (lcmpW (own_total_0 ps ct) (0 : Int64)))])) _
    refine XS.ifYes X5.here hx rfl (pc0 := 50) (pc' := 55) rfl (hb hby at_50) rfl ((if0 _ _).trans (flt (fun q => hc50_6 ((lw_lt (own_total_0 ps ct) (0 : Int64)).mp q))).2.1) (by decide) (by decide) ?_
    show Steps p.tables e below (T5.setTop (mkF m 55 #[.val (.int p1), .val (.int p2), .val (.long p3), .second, .val (.int pg), .val (.int ps), .val (.long ct), .second, .val (.ref a1), .val (.long (own_total_0 ps ct)), .second, .unset, .unset] [])) _
    refine XS.lload X5.here hx rfl (hb hby at_55) rfl ?_
    show Steps p.tables e below (T5.setTop (mkF m 57 #[.val (.int p1), .val (.int p2), .val (.long p3), .second, .val (.int pg), .val (.int ps), .val (.long ct), .second, .val (.ref a1), .val (.long (own_total_0 ps ct)), .second, .unset, .unset] [(.long (own_total_0 ps ct))])) _
    refine XS.lconst X5.here hx rfl (hb hby at_57) ?_
    show Steps p.tables e below (T5.setTop (mkF m 58 #[.val (.int p1), .val (.int p2), .val (.long p3), .second, .val (.int pg), .val (.int ps), .val (.long ct), .second, .val (.ref a1), .val (.long (own_total_0 ps ct)), .second, .unset, .unset] [(.long (1 : Int64)), (.long (own_total_0 ps ct))])) _
    refine XS.lsub X5.here hx rfl (hb hby at_58) rfl ?_
    show Steps p.tables e below (T5.setTop (mkF m 59 #[.val (.int p1), .val (.int p2), .val (.long p3), .second, .val (.int pg), .val (.int ps), .val (.long ct), .second, .val (.ref a1), .val (.long (own_total_0 ps ct)), .second, .unset, .unset] [(.long ((own_total_0 ps ct) - (1 : Int64)))])) _
    refine XS.lload X5.here hx rfl (hb hby at_59) rfl ?_
    show Steps p.tables e below (T5.setTop (mkF m 61 #[.val (.int p1), .val (.int p2), .val (.long p3), .second, .val (.int pg), .val (.int ps), .val (.long ct), .second, .val (.ref a1), .val (.long (own_total_0 ps ct)), .second, .unset, .unset] [(.long ct), (.long ((own_total_0 ps ct) - (1 : Int64)))])) _
    refine XS.iload X5.here hx rfl (hb hby at_61) rfl ?_
    show Steps p.tables e below (T5.setTop (mkF m 63 #[.val (.int p1), .val (.int p2), .val (.long p3), .second, .val (.int pg), .val (.int ps), .val (.long ct), .second, .val (.ref a1), .val (.long (own_total_0 ps ct)), .second, .unset, .unset] [(.int ps), (.long ct), (.long ((own_total_0 ps ct) - (1 : Int64)))])) _
    refine XS.i2l X5.here hx rfl (hb hby at_63) rfl ?_
    show Steps p.tables e below (T5.setTop (mkF m 64 #[.val (.int p1), .val (.int p2), .val (.long p3), .second, .val (.int pg), .val (.int ps), .val (.long ct), .second, .val (.ref a1), .val (.long (own_total_0 ps ct)), .second, .unset, .unset] [(.long (ps.toInt64)), (.long ct), (.long ((own_total_0 ps ct) - (1 : Int64)))])) _
    refine XS.ldiv X5.here hx rfl (hb hby at_64) rfl (own_ne0 q2.1) ?_
    show Steps p.tables e below (T5.setTop (mkF m 65 #[.val (.int p1), .val (.int p2), .val (.long p3), .second, .val (.int pg), .val (.int ps), .val (.long ct), .second, .val (.ref a1), .val (.long (own_total_0 ps ct)), .second, .unset, .unset] [(.long (ct / (ps.toInt64))), (.long ((own_total_0 ps ct) - (1 : Int64)))])) _
    refine XS.lcmp X5.here hx rfl (hb hby at_65) rfl ?_
    show Steps p.tables e below (T5.setTop (mkF m 66 #[.val (.int p1), .val (.int p2), .val (.long p3), .second, .val (.int pg), .val (.int ps), .val (.long ct), .second, .val (.ref a1), .val (.long (own_total_0 ps ct)), .second, .unset, .unset] [(.int (lcmpW ((own_total_0 ps ct) - (1 : Int64)) (ct / (ps.toInt64))))])) _
    refine XS.ifYes X5.here hx rfl (pc0 := 66) (pc' := 71) rfl (hb hby at_66) rfl ((if0 _ _).trans (flt (fun q => hc66_7 ((lw_gt ((own_total_0 ps ct) - (1 : Int64)) (ct / (ps.toInt64))).mp q))).2.2.2) (by decide) (by decide) ?_
    show Steps p.tables e below (T5.setTop (mkF m 71 #[.val (.int p1), .val (.int p2), .val (.long p3), .second, .val (.int pg), .val (.int ps), .val (.long ct), .second, .val (.ref a1), .val (.long (own_total_0 ps ct)), .second, .unset, .unset] [])) _
    refine XS.lload X5.here hx rfl (hb hby at_71) rfl ?_
    show Steps p.tables e below (T5.setTop (mkF m 73 #[.val (.int p1), .val (.int p2), .val (.long p3), .second, .val (.int pg), .val (.int ps), .val (.long ct), .second, .val (.ref a1), .val (.long (own_total_0 ps ct)), .second, .unset, .unset] [(.long (own_total_0 ps ct))])) _
    refine XS.iload X5.here hx rfl (hb hby at_73) rfl ?_
    show Steps p.tables e below (T5.setTop (mkF m 75 #[.val (.int p1), .val (.int p2), .val (.long p3), .second, .val (.int pg), .val (.int ps), .val (.long ct), .second, .val (.ref a1), .val (.long (own_total_0 ps ct)), .second, .unset, .unset] [(.int ps), (.long (own_total_0 ps ct))])) _
    refine XS.i2l X5.here hx rfl (hb hby at_75) rfl ?_
    show Steps p.tables e below (T5.setTop (mkF m 76 #[.val (.int p1), .val (.int p2), .val (.long p3), .second, .val (.int pg), .val (.int ps), .val (.long ct), .second, .val (.ref a1), .val (.long (own_total_0 ps ct)), .second, .unset, .unset] [(.long (ps.toInt64)), (.long (own_total_0 ps ct))])) _
    refine XS.lmul X5.here hx rfl (hb hby at_76) rfl ?_
    show Steps p.tables e below (T5.setTop (mkF m 77 #[.val (.int p1), .val (.int p2), .val (.long p3), .second, .val (.int pg), .val (.int ps), .val (.long ct), .second, .val (.ref a1), .val (.long (own_total_0 ps ct)), .second, .unset, .unset] [(.long ((own_total_0 ps ct) * (ps.toInt64)))])) _
    refine XS.lload X5.here hx rfl (hb hby at_77) rfl ?_
    show Steps p.tables e below (T5.setTop (mkF m 79 #[.val (.int p1), .val (.int p2), .val (.long p3), .second, .val (.int pg), .val (.int ps), .val (.long ct), .second, .val (.ref a1), .val (.long (own_total_0 ps ct)), .second, .unset, .unset] [(.long ct), (.long ((own_total_0 ps ct) * (ps.toInt64)))])) _
    refine XS.lsub X5.here hx rfl (hb hby at_79) rfl ?_
    show Steps p.tables e below (T5.setTop (mkF m 80 #[.val (.int p1), .val (.int p2), .val (.long p3), .second, .val (.int pg), .val (.int ps), .val (.long ct), .second, .val (.ref a1), .val (.long (own_total_0 ps ct)), .second, .unset, .unset] [(.long (((own_total_0 ps ct) * (ps.toInt64)) - ct))])) _
    refine XS.lstore X5.here hx rfl (hb hby at_80) rfl (l' := #[.val (.int p1), .val (.int p2), .val (.long p3), .second, .val (.int pg), .val (.int ps), .val (.long ct), .second, .val (.ref a1), .val (.long (own_total_0 ps ct)), .second, .val (.long (((own_total_0 ps ct) * (ps.toInt64)) - ct)), .second]) rfl ?_
    show Steps p.tables e below (T5.setTop (mkF m 82 #[.val (.int p1), .val (.int p2), .val (.long p3), .second, .val (.int pg), .val (.int ps), .val (.long ct), .second, .val (.ref a1), .val (.long (own_total_0 ps ct)), .second, .val (.long (((own_total_0 ps ct) * (ps.toInt64)) - ct)), .second] [])) _
    refine XS.lconst X5.here hx rfl (hb hby at_82) ?_
    show Steps p.tables e below (T5.setTop (mkF m 83 #[.val (.int p1), .val (.int p2), .val (.long p3), .second, .val (.int pg), .val (.int ps), .val (.long ct), .second, .val (.ref a1), .val (.long (own_total_0 ps ct)), .second, .val (.long (((own_total_0 ps ct) * (ps.toInt64)) - ct)), .second] [(.long (0 : Int64))])) _
    refine XS.lload X5.here hx rfl (hb hby at_83) rfl ?_
    show Steps p.tables e below (T5.setTop (mkF m 85 #[.val (.int p1), .val (.int p2), .val (.long p3), .second, .val (.int pg), .val (.int ps), .val (.long ct), .second, .val (.ref a1), .val (.long (own_total_0 ps ct)), .second, .val (.long (((own_total_0 ps ct) * (ps.toInt64)) - ct)), .second] [(.long (((own_total_0 ps ct) * (ps.toInt64)) - ct)), (.long (0 : Int64))])) _
    refine XS.lcmp X5.here hx rfl (hb hby at_85) rfl ?_
    show Steps p.tables e below (T5.setTop (mkF m 86 #[.val (.int p1), .val (.int p2), .val (.long p3), .second, .val (.int pg), .val (.int ps), .val (.long ct), .second, .val (.ref a1), .val (.long (own_total_0 ps ct)), .second, .val (.long (((own_total_0 ps ct) * (ps.toInt64)) - ct)), .second] [(.int (lcmpW (0 : Int64) (((own_total_0 ps ct) * (ps.toInt64)) - ct)))])) _
    refine XS.ifNo X5.here hx rfl (hb hby at_86) rfl ((if0 _ _).trans (flt (fun q => hc86_8 ((lw_gt (0 : Int64) (((own_total_0 ps ct) * (ps.toInt64)) - ct)).mp q))).2.2.1) ?_
    show Steps p.tables e below (T5.setTop (mkF m 89 #[.val (.int p1), .val (.int p2), .val (.long p3), .second, .val (.int pg), .val (.int ps), .val (.long ct), .second, .val (.ref a1), .val (.long (own_total_0 ps ct)), .second, .val (.long (((own_total_0 ps ct) * (ps.toInt64)) - ct)), .second] [])) _
    refine XS.lload X5.here hx rfl (hb hby at_89) rfl ?_
    show Steps p.tables e below (T5.setTop (mkF m 91 #[.val (.int p1), .val (.int p2), .val (.long p3), .second, .val (.int pg), .val (.int ps), .val (.long ct), .second, .val (.ref a1), .val (.long (own_total_0 ps ct)), .second, .val (.long (((own_total_0 ps ct) * (ps.toInt64)) - ct)), .second] [(.long (((own_total_0 ps ct) * (ps.toInt64)) - ct))])) _
    refine XS.iload X5.here hx rfl (hb hby at_91) rfl ?_
    show Steps p.tables e below (T5.setTop (mkF m 93 #[.val (.int p1), .val (.int p2), .val (.long p3), .second, .val (.int pg), .val (.int ps), .val (.long ct), .second, .val (.ref a1), .val (.long (own_total_0 ps ct)), .second, .val (.long (((own_total_0 ps ct) * (ps.toInt64)) - ct)), .second] [(.int ps), (.long (((own_total_0 ps ct) * (ps.toInt64)) - ct))])) _
    refine XS.i2l X5.here hx rfl (hb hby at_93) rfl ?_
    show Steps p.tables e below (T5.setTop (mkF m 94 #[.val (.int p1), .val (.int p2), .val (.long p3), .second, .val (.int pg), .val (.int ps), .val (.long ct), .second, .val (.ref a1), .val (.long (own_total_0 ps ct)), .second, .val (.long (((own_total_0 ps ct) * (ps.toInt64)) - ct)), .second] [(.long (ps.toInt64)), (.long (((own_total_0 ps ct) * (ps.toInt64)) - ct))])) _
    refine XS.lcmp X5.here hx rfl (hb hby at_94) rfl ?_
    show Steps p.tables e below (T5.setTop (mkF m 95 #[.val (.int p1), .val (.int p2), .val (.long p3), .second, .val (.int pg), .val (.int ps), .val (.long ct), .second, .val (.ref a1), .val (.long (own_total_0 ps ct)), .second, .val (.long (((own_total_0 ps ct) * (ps.toInt64)) - ct)), .second] [(.int (lcmpW (((own_total_0 ps ct) * (ps.toInt64)) - ct) (ps.toInt64)))])) _
    refine XS.ifNo X5.here hx rfl (hb hby at_95) rfl ((if0 _ _).trans (tlt ((lw_lt (((own_total_0 ps ct) * (ps.toInt64)) - ct) (ps.toInt64)).mpr hc95_9)).2.1) ?_
    show Steps p.tables e below (T5.setTop (mkF m 98 #[.val (.int p1), .val (.int p2), .val (.long p3), .second, .val (.int pg), .val (.int ps), .val (.long ct), .second, .val (.ref a1), .val (.long (own_total_0 ps ct)), .second, .val (.long (((own_total_0 ps ct) * (ps.toInt64)) - ct)), .second] [])) _
    refine XS.iconst X5.here hx rfl (hb hby at_98) ?_
    show Steps p.tables e below (T5.setTop (mkF m 99 #[.val (.int p1), .val (.int p2), .val (.long p3), .second, .val (.int pg), .val (.int ps), .val (.long ct), .second, .val (.ref a1), .val (.long (own_total_0 ps ct)), .second, .val (.long (((own_total_0 ps ct) * (ps.toInt64)) - ct)), .second] [(.int (1 : Int32))])) _
    refine XS.goto X5.here hx rfl (pc0 := 99) (pc' := 103) rfl (hb hby at_99) (by decide) (by decide) ?_
    show Steps p.tables e below (T5.setTop (mkF m 103 #[.val (.int p1), .val (.int p2), .val (.long p3), .second, .val (.int pg), .val (.int ps), .val (.long ct), .second, .val (.ref a1), .val (.long (own_total_0 ps ct)), .second, .val (.long (((own_total_0 ps ct) * (ps.toInt64)) - ct)), .second] [(.int (1 : Int32))])) _
    exact retN X5 hx (t := .boolean) Bd.returns (by simp) (hb hby at_103) hr
  · exact ⟨rfl, N5⟩
set_option maxRecDepth 65536 in
set_option maxHeartbeats 40000000 in
theorem comes_1 {Post : Tables → Env → Array Value → State → Outcome → State → Prop} (hpost : ∀ tb e args s v u, (limb_1_1.after args s (.returned v) u = true ∧ limb_1_2.after args s (.returned v) u = true ∧ True) → FrameEnd s (.returned v) u (Jvm.fieldLocs frame_1_writes args s ++ Jvm.arrayLocs frame_1_arrays args s ++ Jvm.staticLocs frame_1_statics s) 16 128 → Post tb e args s (.returned v) u) :
    ArmFor flags0 classFile x code maxLocals ret World_1 tables_1 room_1 Calls_1 rest_1 Pre_1 Post := by
  intro l hfl _ _ p e ha hc hk s m args below hf hA hF happ hP
  obtain ⟨hcalls, hrest, hpre⟩ := hP
  obtain ⟨-, -, -, hnamed, -, -, -, hat⟩ := (Spec.applies_iff hf).mp happ
  obtain ⟨hg, hn⟩ := and_e (Cond.before_iff.mp (show (Jvm.Cond.and given_1 narrow_1).before args s = true from hpre))
  obtain ⟨g0, r0⟩ := and_e hg
  obtain ⟨g1, r1⟩ := and_e r0
  obtain ⟨g2, r2⟩ := and_e r1
  obtain ⟨w0, w1, w2, rfl⟩ : ∃ w0 w1 w2 : Value, args = #[w0, w1, w2] := by
    have hs : args.size = 3 := by simpa [Cond.value, given_1] using g0
    obtain ⟨L⟩ := args
    match L, hs with
    | [w0, w1, w2], _ => exact ⟨w0, w1, w2, rfl⟩
  have hw := fun d (hd : d ∈ tables_1) => atoms_spec (ws := Jvm.Cond.code x code maxLocals ret :: tables_1) hat d (List.mem_cons_of_mem _ hd)
  obtain ⟨i0, y0⟩ := is_v g1
  obtain rfl : w0 = (.int i0) := Option.some.inj y0
  obtain ⟨i1, y1⟩ := is_v g2
  obtain rfl : w1 = (.int i1) := Option.some.inj y1
  obtain ⟨i2, y2⟩ := isL_v r2
  obtain rfl : w2 = (.long i2) := Option.some.inj y2
  obtain ⟨n, o, h1, h2, h3, _, L, rfl, ⟨rfl, N⟩, hq⟩ := rm0 l s _ hw tables_1 i0 i1 i2 s.heap s.heap.size (Nat.le_refl _) p e ha hc hk s m _ below hf ((Spec.applies_iff_loose hf).mp happ).1 ⟨rfl, State.Warmed39.refl s, rfl⟩ trivial
  refine ⟨n, _, h1, h2, h3, hpost _ _ _ _ _ _ ⟨Cond.after_iff.mpr rfl, Cond.after_iff.mpr (eq_i res_at (Term.int_eval (1)) rfl), trivial⟩ ⟨hq.1, hq.2.1, (hq.2.2.sift fun y hy => Or.inr (N y hy)).mono (by decide) (by decide)⟩⟩
theorem main_1_1 : Claimed_1_1 := comes_1 fun _ _ _ _ _ _ h hF => ⟨h.1, hF⟩
theorem main_1_2 : Claimed_1_2 := comes_1 fun _ _ _ _ _ _ h hF => ⟨h.2.1, hF⟩
end Jvm.Pilot.@@N@@
namespace Jvm.Pilot.@@N@@
open Jvm Jvm.ClassFile Sem Op Lib Jvm.Free Jvm.Stand Jvm.Pilot.@@N@@.Jvm.D
/-! MADE BY PROGRAM (witnessworld.py) out of the Statement's table words and the real class files: 10 classes; the members and pool entries that the words name. The judged class is class 1, her method 1. -/
namespace start1
open Jvm.ClassFile
def u (s : String) : CpInfo := .utf8 (stringToUtf16 s)
/-- a pool by its gaps: so many unusable entries, then the entry; so many at the end -/
def gap : Nat → List CpInfo → List CpInfo
  | 0, r => r
  | n + 1, r => .unusable :: gap n r
def poolList (es : List (Nat × CpInfo)) (last : Nat) : List CpInfo := es.foldr (fun e r => gap e.1 (e.2 :: r)) (gap last [])
def pool (es : List (Nat × CpInfo)) (last : Nat) : Array CpInfo := ⟨poolList es last⟩
def fileOf (pool : Array CpInfo) (this : Nat) (attrs : Array Attribute := #[]) (ms : Array MethodInfo := #[]) (fl : Nat := 33) (sup : Nat := 0) (ifs : Array Nat := #[]) (fds : Array FieldInfo := #[]) : ClassFile where
  minorVersion := 0
  majorVersion := 65
  constantPool := pool
  accessFlags := fl
  thisClass := this
  superClass := sup
  interfaces := ifs
  fields := fds
  methods := ms
  attributes := attrs
def plain (name : String) (sup : Option ClassId) : Class where
  name := name
  kind := .ordinary
  loader := none
  accessFlags := 33
  super := sup
  interfaces := #[]
  cf := none
  fields := #[]
  methods := #[]
  instanceTypes := #[]
  staticTypes := #[]
  resolved := #[]
  callSites := []
  init := .initialized
  statics := none
  mirror := none

def pool0 : Array CpInfo := pool [(5, u "<init>"), (0, u "()V"), (1, .class_ 10), (1, u "java/lang/Object")] 113

def k0c0 : Code := { maxStack := 0, maxLocals := 1, code := object_method_1_code, exceptionTable := #[], attributes := #[] }
def k0m0 : Method := { name := "<init>", desc := "()V", sig := { parameters := [], returnType := none }, accessFlags := 1, code := some k0c0 }
/-- java/lang/Object -/
def k0 : Class := { plain "java/lang/Object" none with
  accessFlags := 33
  interfaces := #[]
  cf := some (fileOf pool0 8 #[] #[{ accessFlags := 1, nameIndex := 5, descriptorIndex := 6, attributes := #[] }] 33 0 #[] #[])
  fields := #[]
  methods := #[k0m0]
  instanceTypes := #[]
  staticTypes := #[]
  resolved := Array.replicate 124 none
  statics := none }

def pool1 : Array CpInfo := pool [(2, .class_ 4), (1, u "java/lang/Object"), (0, u "<init>"), (0, u "()V"), (0, .integer 2147483647), (0, .class_ 9), (0, u "com/example/landrace_ledger/landraceledger/server/PageRequest"), (0, .integer 100000), (2, .long 9223372036854775807), (1, .methodref 8 16), (0, .nameAndType 5 17), (0, u "(II)V"), (0, .methodref 8 19), (0, .nameAndType 20 21), (0, u "totalPages"), (0, u "(J)J"), (0, .class_ 23), (0, u "com/example/landrace_ledger/landraceledger/server/PageRequestTotalPagesPinLaw"), (2, u "law"), (0, u "(IIJ)Z")] 3

def k1m0 : Method := { name := "<init>", desc := "()V", sig := { parameters := [], returnType := none }, accessFlags := 2, code := none }
def k1c1 : Code := { maxStack := 6, maxLocals := 13, code := code, exceptionTable := #[], attributes := #[] }
def k1m1 : Method := { name := "law", desc := "(IIJ)Z", sig := { parameters := [.int, .int, .long], returnType := some .boolean }, accessFlags := 9, code := some k1c1 }
/-- com/example/landrace_ledger/landraceledger/server/PageRequestTotalPagesPinLaw -/
def k1 : Class := { plain "com/example/landrace_ledger/landraceledger/server/PageRequestTotalPagesPinLaw" (some 0) with
  accessFlags := 49
  interfaces := #[]
  cf := some (fileOf pool1 22 #[] #[{ accessFlags := 2, nameIndex := 5, descriptorIndex := 6, attributes := #[] }, { accessFlags := 9, nameIndex := 26, descriptorIndex := 27, attributes := #[] }] 49 2 #[] #[])
  fields := #[]
  methods := #[k1m0, k1m1]
  instanceTypes := #[]
  staticTypes := #[]
  resolved := Array.replicate 31 none
  statics := none }

def pool2 : Array CpInfo := pool [(1, .methodref 2 3), (0, .class_ 4), (0, .nameAndType 5 6), (0, u "java/lang/Object"), (0, u "<init>"), (0, u "()V"), (0, .class_ 8), (0, u "java/lang/Record")] 13

def k2c0 : Code := { maxStack := 1, maxLocals := 1, code := jdk_30_method_1_code, exceptionTable := #[], attributes := #[] }
def k2m0 : Method := { name := "<init>", desc := "()V", sig := { parameters := [], returnType := none }, accessFlags := 4, code := some k2c0 }
/-- java/lang/Record -/
def k2 : Class := { plain "java/lang/Record" (some 0) with
  accessFlags := 1057
  interfaces := #[]
  cf := some (fileOf pool2 7 #[] #[{ accessFlags := 4, nameIndex := 5, descriptorIndex := 6, attributes := #[] }] 1057 2 #[] #[])
  fields := #[]
  methods := #[k2m0]
  instanceTypes := #[]
  staticTypes := #[]
  resolved := Array.replicate 22 none
  statics := none }

def pool3 : Array CpInfo := pool [(1, .methodref 2 3), (0, .class_ 4), (0, .nameAndType 5 6), (0, u "java/lang/Record"), (0, u "<init>"), (0, u "()V"), (9, .class_ 17), (0, u "com/example/landrace_ledger/landraceledger/server/PageRequest"), (0, .integer 100000), (1, .fieldref 16 21), (0, .nameAndType 22 23), (0, u "page"), (0, u "I"), (0, .fieldref 16 25), (0, .nameAndType 26 23), (0, u "pageSize"), (2, u "totalPages"), (0, u "(J)J"), (19, u "DEFAULT_PAGE_SIZE"), (2, u "MAX_PAGE_SIZE"), (0, u "(II)V")] 43

def k3c0 : Code := { maxStack := 3, maxLocals := 3, code := prog_25_method_1_code, exceptionTable := #[], attributes := #[] }
def k3m0 : Method := { name := "<init>", desc := "(II)V", sig := { parameters := [.int, .int], returnType := none }, accessFlags := 1, code := some k3c0 }
def k3c1 : Code := { maxStack := 6, maxLocals := 3, code := prog_25_method_3_code, exceptionTable := #[], attributes := #[] }
def k3m1 : Method := { name := "totalPages", desc := "(J)J", sig := { parameters := [.long], returnType := some .long }, accessFlags := 1, code := some k3c1 }
/-- com/example/landrace_ledger/landraceledger/server/PageRequest -/
def k3 : Class := { plain "com/example/landrace_ledger/landraceledger/server/PageRequest" (some 2) with
  accessFlags := 49
  interfaces := #[]
  cf := some (fileOf pool3 16 #[] #[{ accessFlags := 1, nameIndex := 5, descriptorIndex := 54, attributes := #[] }, { accessFlags := 1, nameIndex := 29, descriptorIndex := 30, attributes := #[] }] 49 2 #[] #[{ accessFlags := 18, nameIndex := 22, descriptorIndex := 23, attributes := #[] }, { accessFlags := 18, nameIndex := 26, descriptorIndex := 23, attributes := #[] }, { accessFlags := 25, nameIndex := 50, descriptorIndex := 23, attributes := #[] }, { accessFlags := 25, nameIndex := 53, descriptorIndex := 23, attributes := #[] }])
  fields := #[{ name := "page", type := .int, accessFlags := 18, slot := 0, constantValue := 0 }, { name := "pageSize", type := .int, accessFlags := 18, slot := 1, constantValue := 0 }, { name := "DEFAULT_PAGE_SIZE", type := .int, accessFlags := 25, slot := 0, constantValue := 0 }, { name := "MAX_PAGE_SIZE", type := .int, accessFlags := 25, slot := 1, constantValue := 0 }]
  methods := #[k3m0, k3m1]
  instanceTypes := #[.int, .int]
  staticTypes := #[.int, .int]
  resolved := Array.replicate 98 none
  statics := none }

def pool4 : Array CpInfo := pool [(1, u "java/lang/Cloneable"), (0, .class_ 1), (0, u "java/lang/Object"), (0, .class_ 3)] 3

/-- java/lang/Cloneable -/
def k4 : Class := { plain "java/lang/Cloneable" (some 0) with
  accessFlags := 1537
  interfaces := #[]
  cf := some (fileOf pool4 2 #[] #[] 1537 4 #[] #[])
  fields := #[]
  methods := #[]
  instanceTypes := #[]
  staticTypes := #[]
  resolved := Array.replicate 8 none
  statics := none }

def pool5 : Array CpInfo := pool [(1, u "java/io/Serializable"), (0, .class_ 1), (0, u "java/lang/Object"), (0, .class_ 3)] 3

/-- java/io/Serializable -/
def k5 : Class := { plain "java/io/Serializable" (some 0) with
  accessFlags := 1537
  interfaces := #[]
  cf := some (fileOf pool5 2 #[] #[] 1537 4 #[] #[])
  fields := #[]
  methods := #[]
  instanceTypes := #[]
  staticTypes := #[]
  resolved := Array.replicate 8 none
  statics := none }

/-- the primitive byte -/
def k6 : Class := { plain "byte" none with kind := .primitive 'B', accessFlags := 0x411 }
/-- [B -/
def k7 : Class := { plain "[B" (some 0) with kind := .array 6 .byte, interfaces := #[4, 5], accessFlags := 1041 }

/-- the primitive int -/
def k8 : Class := { plain "int" none with kind := .primitive 'I', accessFlags := 0x411 }
/-- [I -/
def k9 : Class := { plain "[I" (some 0) with kind := .array 8 .int, interfaces := #[4, 5], accessFlags := 1041 }

def heap : Heap := #[]
def classes : Array Class := #[k0, k1, k2, k3, k4, k5, k6, k7, k8, k9]
def interned : List (Array UInt16 × Addr) := []
def slotsUsed : Nat := 0
def theMethod : MethodId := ⟨1, 1⟩
def args0 : Array Value := #[.int 5, .int 1, .long 7]
def aboutOver (below : List Frame) : State where
  vm := { classes := classes, interned := interned.toArray }
  heap := heap
  slotsUsed := slotsUsed
  threads := #[{ frames := .invoking theMethod args0 :: below }]
def below0 : List Frame := [.native { method := ⟨0, 0⟩, args := #[] }]
def about1 : State := aboutOver below0
def p0 : Program := .bare "" "" ""
def e0 : Env := launch0.env 0 0 0
theorem w_frames : about1.frames = Frame.invoking theMethod args0 :: below0 := rfl
set_option maxRecDepth 65536 in
theorem w_args : argsFit about1.vm theMethod args0 = true := by decide +kernel
set_option maxRecDepth 65536 in
theorem w_heap : heapFits about1 = true := by decide +kernel
set_option maxRecDepth 65536 in
theorem w_runnable : about1.curStatus? = some .runnable := by decide +kernel
set_option maxRecDepth 65536 in
theorem w_alone : about1.alone = true := by decide +kernel
set_option maxRecDepth 65536 in
theorem w_named : about1.methodNamed? x = some theMethod := by decide +kernel
set_option maxRecDepth 65536 in
theorem w_hears : about1.hears theMethod below0 = true := by decide +kernel
set_option maxRecDepth 65536 in
theorem w_ripe : about1.ripe theMethod args0 below0 = true := by decide +kernel
theorem w_running : about1.status = .running := rfl
set_option maxRecDepth 65536 in
theorem w_room : about1.hasRoom e0.platform room_1 = true :=
  launch0.hasRoom_least _ room_1 (by decide +kernel) (by decide +kernel) (by decide +kernel) (by decide +kernel) (by decide +kernel) (by decide +kernel)
theorem allAtoms_all (ts : List Jvm.Cond) (a : Array Jvm.Value) (st : Jvm.State) : (allAtoms ts).before a st = ts.all (fun c => c.before a st) := by
  induction ts with
  | nil => rfl
  | cons c t ih =>
    show (Jvm.Cond.and c (allAtoms t)).before a st = _
    rw [Jvm.Cond.before_and, ih, List.all_cons]
def words1 : List Jvm.Cond := Jvm.Cond.code x code maxLocals ret :: tables_1
/-- a 'code' word, met by the world's own term for the bytes: nothing is compared byte by byte -/
theorem code_word {y : MethodName} {bytes : ByteArray} {mx : Nat} {rt : Option FieldType} {a : Array Value} {s : State} {m : MethodId} {meth : Method} {c : Code} (h1 : s.methodNamed? y = some m) (h2 : s.vm.method? m = some meth) (h3 : meth.code = some c) (h4 : c.code = bytes)
    (h5 : (c.maxLocals == mx && c.exceptionTable.isEmpty && decide (c.maxStack ≤ mostOperands) && decide (meth.sig.returnType = rt) && !meth.locks && decide (parseMethodDescriptor y.desc = some meth.sig)) = true) : (Jvm.Cond.code y bytes mx rt).before a s = true := by
  simp only [Bool.and_eq_true, beq_iff_eq, Bool.not_eq_true', decide_eq_true_eq] at h5
  obtain ⟨⟨⟨⟨⟨g1, g2⟩, g3⟩, g4⟩, g5⟩, g6⟩ := h5
  simp [Cond.before, Cond.holds, Cond.value, h1, h2, h3, h4, g1, g2, g3, g4, g5, g6]
def isCode : Jvm.Cond → Bool
  | .code _ _ _ _ => true
  | _ => false
theorem all_split {L : List Jvm.Cond} {P : Jvm.Cond → Bool} (h1 : L.all (fun c => isCode c || P c) = true) (h2 : ∀ c ∈ L.filter isCode, P c = true) : L.all P = true := by
  refine List.all_eq_true.mpr fun c hc => ?_
  have h := List.all_eq_true.mp h1 c hc
  rcases Bool.eq_false_or_eq_true (isCode c) with hi | hi
  · exact h2 c (List.mem_filter.mpr ⟨hc, hi⟩)
  · simpa [hi] using h
set_option maxRecDepth 65536 in
theorem w_c0 : (Jvm.Cond.code x code maxLocals ret).before args0 about1 = true := code_word (m := ⟨1, 1⟩) (meth := k1m1) (c := k1c1) (by decide +kernel) rfl rfl rfl (by decide +kernel)
set_option maxRecDepth 65536 in
theorem w_c1 : (Jvm.Cond.code ({ cls := "com/example/landrace_ledger/landraceledger/server/PageRequest", name := "<init>", desc := "(II)V" } : Jvm.MethodName) prog_25_method_1_code (3 : Nat) (Option.none : Option Jvm.ClassFile.FieldType)).before args0 about1 = true := code_word (m := ⟨3, 0⟩) (meth := k3m0) (c := k3c0) (by decide +kernel) rfl rfl rfl (by decide +kernel)
set_option maxRecDepth 65536 in
theorem w_c2 : (Jvm.Cond.code ({ cls := "java/lang/Record", name := "<init>", desc := "()V" } : Jvm.MethodName) jdk_30_method_1_code (1 : Nat) (Option.none : Option Jvm.ClassFile.FieldType)).before args0 about1 = true := code_word (m := ⟨2, 0⟩) (meth := k2m0) (c := k2c0) (by decide +kernel) rfl rfl rfl (by decide +kernel)
set_option maxRecDepth 65536 in
theorem w_c3 : (Jvm.Cond.code ({ cls := "java/lang/Object", name := "<init>", desc := "()V" } : Jvm.MethodName) object_method_1_code (1 : Nat) (Option.none : Option Jvm.ClassFile.FieldType)).before args0 about1 = true := code_word (m := ⟨0, 0⟩) (meth := k0m0) (c := k0c0) (by decide +kernel) rfl rfl rfl (by decide +kernel)
set_option maxRecDepth 65536 in
theorem w_c4 : (Jvm.Cond.code ({ cls := "com/example/landrace_ledger/landraceledger/server/PageRequest", name := "totalPages", desc := "(J)J" } : Jvm.MethodName) prog_25_method_3_code (3 : Nat) (Option.some Jvm.ClassFile.FieldType.long)).before args0 about1 = true := code_word (m := ⟨3, 1⟩) (meth := k3m1) (c := k3c1) (by decide +kernel) rfl rfl rfl (by decide +kernel)
def codes1 : List Jvm.Cond := [Jvm.Cond.code x code maxLocals ret, Jvm.Cond.code ({ cls := "com/example/landrace_ledger/landraceledger/server/PageRequest", name := "<init>", desc := "(II)V" } : Jvm.MethodName) prog_25_method_1_code (3 : Nat) (Option.none : Option Jvm.ClassFile.FieldType), Jvm.Cond.code ({ cls := "java/lang/Record", name := "<init>", desc := "()V" } : Jvm.MethodName) jdk_30_method_1_code (1 : Nat) (Option.none : Option Jvm.ClassFile.FieldType), Jvm.Cond.code ({ cls := "java/lang/Object", name := "<init>", desc := "()V" } : Jvm.MethodName) object_method_1_code (1 : Nat) (Option.none : Option Jvm.ClassFile.FieldType), Jvm.Cond.code ({ cls := "com/example/landrace_ledger/landraceledger/server/PageRequest", name := "totalPages", desc := "(J)J" } : Jvm.MethodName) prog_25_method_3_code (3 : Nat) (Option.some Jvm.ClassFile.FieldType.long)]
set_option maxRecDepth 65536 in
theorem codes_eq : words1.filter isCode = codes1 := rfl
theorem w_codes : ∀ c ∈ words1.filter isCode, c.before args0 about1 = true := by
  rw [codes_eq]
  intro c hc
  simp only [codes1, List.mem_cons, List.not_mem_nil, or_false] at hc
  rcases hc with rfl | rfl | rfl | rfl | rfl
  · exact w_c0
  · exact w_c1
  · exact w_c2
  · exact w_c3
  · exact w_c4
set_option maxRecDepth 65536 in
theorem w_t1 : (words1.take 24).all (fun c => isCode c || c.before args0 about1) = true := by decide +kernel
set_option maxRecDepth 65536 in
theorem w_t2 : (words1.drop 24).all (fun c => isCode c || c.before args0 about1) = true := by decide +kernel
theorem w_tables : (allAtoms (Jvm.Cond.code x code maxLocals ret :: tables_1)).before args0 about1 = true := by
  rw [allAtoms_all]
  show words1.all (fun c => c.before args0 about1) = true
  refine all_split ?_ w_codes
  rw [← List.take_append_drop 24 words1, List.all_append, w_t1, w_t2]
  rfl
set_option maxRecDepth 65536 in
theorem w_case : (Jvm.Cond.and given_1 narrow_1).before args0 about1 = true := by decide +kernel
theorem w_applies : (headSpec (Jvm.Cond.code x code maxLocals ret :: tables_1) room_1).applies x e0.platform about1 = true :=
  (Spec.applies_iff w_frames).mpr ⟨w_running, w_runnable, w_alone, w_named, w_hears, w_ripe, w_room, w_tables⟩
theorem atStart : AtStart classFile x code maxLocals ret World_1 tables_1 room_1 Calls_1 rest_1 Pre_1 launch0 p0 e0 about1 theMethod args0 below0 :=
  ⟨lists_1, trivial, launch0.admits_env _ _ _, launch0.least_env, fairChoices_fair.cas, fairChoices_fair.clock, w_frames, w_args, w_heap, w_applies, trivial, trivial, w_case⟩
end start1
theorem witness_1 : WitnessClaimed_1 := ⟨start1.p0, start1.e0, start1.about1, start1.theMethod, start1.args0, start1.below0, start1.atStart⟩
end Jvm.Pilot.@@N@@
