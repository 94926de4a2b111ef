import JvmDerived
import JvmDerived.Pilot.@@N@@Statement
import JvmDerived.Pilot.@@N@@Code
set_option linter.unusedVariables false
set_option linter.unusedSimpArgs false
@@BLOCK:NumsL.lean.txt@@
@@BLOCK:Masks.lean.txt@@
namespace Jvm.RoadKit
open Sem ClassFile Op Lib Jvm.Stand Jvm.Free Jvm.LawKit
section New
variable {p : Program} {l : Launch} {e : Env} {R : Room} {s : State} {m : MethodId} {args : Array Value} {below : List Frame} {meth : Method} {c : Code} {T : State} {locs : List Loc} {cells slots : Nat}
theorem retI (X : Stand p l e R s m args below meth c T locs cells slots) (hx : p.tables.exec = Jvm.exec) {pc : Nat} {Ls : Array Slot} {z : Int32} {rest : List Value} (hret : meth.sig.returnType = some .int) (hd : decode c.code pc = .ok (.ireturn, 1)) {fs : List Frame}
    (hl : ∀ (f : JFrame) (acts : List Action), f.method = m → f.locked = none → f.entered = [] → (doReturn e (T.setTop f) acts (some (.int z))).1 = T.setFrames fs) : Steps p.tables e below (T.setTop (mkF m pc Ls (.int z :: rest))) (T.setFrames fs) := by
  have hm' : T.vm.method? m = some meth := X.method'
  have hn : narrow .int (.int z) = .int z := rfl
  show Steps p.tables e below (T.setTop { method := m, pc := pc, locals := Ls, stack := _ :: rest, locked := none }) _
  jvm_step X.here [X.here.top, hx, hd, hm', hret, hn]
  first | (intro acts; rw [hl _ acts rfl rfl rfl]) | rw [hl _ _ rfl rfl rfl]
  exact Steps.refl _
end New
end Jvm.RoadKit
namespace Jvm.Pilot.@@N@@
open Jvm Jvm.ClassFile Sem Op Lib Jvm.Free Jvm.Stand Jvm.LawKit Jvm.RoadKit Bundle Jvm.Pilot.@@N@@.Jvm.D
abbrev own_Go (p : Program) (e : Env) (below : List Frame) (s : State) (Q : Option Value → Heap → List Loc → Prop) (cs ss : Nat) (a : State) : Prop := ∃ (t : State) (o : Outcome), Steps p.tables e below a t ∧ t.status = .running ∧ Ended t below o ∧ ∃ (v : Option Value) (L : List Loc), o = .returned v ∧ Q v t.heap L ∧ FrameEnd s o t L cs ss
section Own
variable {p : Program} {l : Launch} {e : Env} {R : Room} {s : State} {m : MethodId} {args : Array Value} {below : List Frame} {meth : Method} {c : Code} {T : State} {locs : List Loc} {cells slots : Nat} {Q : Option Value → Heap → List Loc → Prop} {cs ss : Nat}
theorem own_go {a b : State} (h : ∀ t, Steps p.tables e below b t → Steps p.tables e below a t) (g : own_Go p e below s Q cs ss b) : own_Go p e below s Q cs ss a := by
  obtain ⟨t, o, h1, h2⟩ := g
  exact ⟨t, o, h t h1, h2⟩
theorem own_end (X : Stand p l e R s m args below meth c T locs cells slots) (hlk : meth.locks = false) {v : Option Value} (hv : meth.sig.returnType = none → v = none) {a : State}
    (hs : ∀ fs, (∀ (f : JFrame) (acts : List Action), f.method = m → f.locked = none → f.entered = [] → (doReturn e (T.setTop f) acts v).1 = T.setFrames fs) → Steps p.tables e below a (T.setFrames fs))
    {h : Heap} (eT : T.heap = h) (hq : Q v h locs) (h1 : cells ≤ cs) (h2 : slots ≤ ss) : own_Go p e below s Q cs ss a := by
  obtain ⟨fs, hr, hrun, hended, hW, hsame⟩ := X.leave hv hlk
  subst eT
  exact ⟨_, _, hs fs hr, hrun, hended, _, _, rfl, hq, ⟨_, rfl⟩, hW, hsame.mono h1 h2⟩
end Own
theorem own_hin {n : Nat} {cl : Cell} {j : Int32} (S : cl.slots.size = n) (h : ¬ j < 0 ∧ j.toNatClampNeg < n) : ¬ (j < 0 ∨ cl.slots.size ≤ j.toNatClampNeg) := by
  rw [S]; exact fun q => q.elim h.1 (fun u => absurd h.2 (Nat.not_lt.mpr u))
theorem own_has {cl : Cell} {xs : List Int32} {n : Nat} (H : Has cl (xs.map Value.int) (.int 0)) (S : cl.slots.size = n) : ∀ i, i < n → cl.slots[i]? = some (.int (xs.getD i 0)) := by
  intro i hi
  rw [H i (by rw [S]; exact hi)]
  simp only [List.getD_eq_getElem?_getD, List.getElem?_map]
  cases xs[i]? <;> rfl
theorem own_hasL {cl : Cell} {xs : List Int64} {n : Nat} (H : Has cl (xs.map Value.long) (.long 0)) (S : cl.slots.size = n) : ∀ i, i < n → cl.slots[i]? = some (.long (xs.getD i 0)) := by
  intro i hi
  rw [H i (by rw [S]; exact hi)]
  simp only [List.getD_eq_getElem?_getD, List.getElem?_map]
  cases xs[i]? <;> rfl
theorem d1_0 : decode jdk_30_method_1_code 0 = .ok (.aload_n 0, 1) := by decide +kernel
theorem d1_1 : decode jdk_30_method_1_code 1 = .ok (.invokespecial 1, 3) := by decide +kernel
theorem d1_4 : decode jdk_30_method_1_code 4 = .ok (.return_, 1) := by decide +kernel
theorem pn_1 : plainName "java/lang/Record" = true := by first | (simp [plainName, overriddenIn]; done) | decide +kernel
theorem ef_1 (m : MethodId) (x0 : Addr) : entryFrame m #[(.ref x0)] 1 = mkF m 0 #[.val (.ref x0)] [] := by first | (simp [entryFrame, mkF, argsToLocals, Value.category]; done) | rfl
def Q1 (b1 : Addr) (h0 : Heap) (n0 : Nat) (v : Option Value) (h : Heap) (L : List Loc) : Prop := v = none ∧ Fr n0 L ∧ h = h0
set_option maxRecDepth 65536 in
set_option maxHeartbeats 40000000 in
theorem rm1 (l : Launch) (Z : State) (a0 : Array Value) (hw : ∀ d ∈ tables_1, d.before a0 Z = true) (ws : List Jvm.Cond) (b1 : Addr) (h0 : Heap) (n0 : Nat) (Z0 : n0 ≤ h0.size)  :
    MetFree l (⟨"java/lang/Record", "<init>", "()V"⟩ : MethodName) (head1 (Jvm.Cond.code (⟨"java/lang/Record", "<init>", "()V"⟩ : MethodName) jdk_30_method_1_code 1 none :: ws) ({ frames := 1, cells := 0, slots := 0, locals := 12 } : Room)) (fun a U => a = #[(.ref b1)] ∧ Z.Warmed39 U.vm ∧ U.heap = h0) (fun _ _ _ _ _ => True) (fun _ U o U' => ∃ v L, o = .returned v ∧ Q1 b1 h0 n0 v U'.heap L ∧ FrameEnd U o U' L ({ frames := 1, cells := 0, slots := 0, locals := 12 } : Room).cells ({ frames := 1, cells := 0, slots := 0, locals := 12 } : Room).slots) := by
  refine MetFree.of_bodySF (plainFor_of_name pn_1) hisR ?_
  intro p e s m args below meth c s₁ Bd hml0 hP hK
  obtain ⟨rfl, hZ, hh⟩ := hP
  have hx := Bd.exec
  have hby := Bd.bytes
  have hml : c.maxLocals = 1 := hml0
  have hown : s.vm.findClass "java/lang/Record" = some m.cls := findClass_of_methodNamed Bd.named
  have hnm := (name_of_methodNamed Bd.named Bd.method).1
  have X0 : Stand p l e ({ frames := 1, cells := 0, slots := 0, locals := 12 } : Room) s m #[(.ref b1)] below meth c s₁ [] 0 0 := Stand.of_body Bd
  have e0 : s₁.heap = h0 := by rw [← hh, Bd.state]; rfl
  have N0 := Fr.nil n0
  show own_Go p e below s (Q1 b1 h0 n0) ({ frames := 1, cells := 0, slots := 0, locals := 12 } : Room).cells ({ frames := 1, cells := 0, slots := 0, locals := 12 } : Room).slots (s₁.setTop (entryFrame m #[(.ref b1)] 1))
  refine own_go (b := s₁.setTop (mkF m 0 #[.val (.ref b1)] [])) (fun t k => castTop (ef_1 m b1) k) ?_
  obtain ⟨T1, X1, e1, st1⟩ := initO X0 hx hZ hown (hw _ (List.mem_of_getElem? (i := 12) rfl)) (hw _ (List.mem_of_getElem? (i := 13) rfl)) (hw _ (List.mem_of_getElem? (i := 14) rfl)) e0 (g := (mkF m 1 #[.val (.ref b1)] [(.ref b1)])) rfl (by rw [hml]; rfl) rfl (hb hby d1_1) (by decide) (W := 0) (by show 2 * 0 + _ ≤ _; exact Nat.le_of_eq rfl) (by decide)
  refine own_end X1 Bd.notSynchronized (v := none) (fun _ => rfl) (fun fs hr => ?_) e1 ?_ (by decide) (by decide)
  · show Steps p.tables e below (s₁.setTop (mkF m 0 #[.val (.ref b1)] [])) _
    refine XS.aloadN X0.here hx rfl (hb hby d1_0) rfl rfl ?_
    show Steps p.tables e below (s₁.setTop (mkF m 1 #[.val (.ref b1)] [(.ref b1)])) _
    refine st1 _ ?_
    show Steps p.tables e below (T1.setTop (mkF m 4 #[.val (.ref b1)] [])) _
    exact X1.returnOut hx Bd.returns (hb hby d1_4) hr
  · exact ⟨rfl, N0, rfl⟩
theorem pd__28_29V : parseMethodDescriptor "()V" = some ⟨[], none⟩ := by decide +kernel
theorem d2_0 : decode prog_100_method_1_code 0 = .ok (.aload_n 0, 1) := by decide +kernel
theorem d2_1 : decode prog_100_method_1_code 1 = .ok (.invokespecial 3, 3) := by decide +kernel
theorem d2_4 : decode prog_100_method_1_code 4 = .ok (.aload_n 0, 1) := by decide +kernel
theorem d2_5 : decode prog_100_method_1_code 5 = .ok (.lload_n 1, 1) := by decide +kernel
theorem d2_6 : decode prog_100_method_1_code 6 = .ok (.putfield 9, 3) := by decide +kernel
theorem d2_9 : decode prog_100_method_1_code 9 = .ok (.aload_n 0, 1) := by decide +kernel
theorem d2_10 : decode prog_100_method_1_code 10 = .ok (.lload_n 3, 1) := by decide +kernel
theorem d2_11 : decode prog_100_method_1_code 11 = .ok (.putfield 15, 3) := by decide +kernel
theorem d2_14 : decode prog_100_method_1_code 14 = .ok (.aload_n 0, 1) := by decide +kernel
theorem d2_15 : decode prog_100_method_1_code 15 = .ok (.lload 5, 2) := by decide +kernel
theorem d2_17 : decode prog_100_method_1_code 17 = .ok (.putfield 18, 3) := by decide +kernel
theorem d2_20 : decode prog_100_method_1_code 20 = .ok (.aload_n 0, 1) := by decide +kernel
theorem d2_21 : decode prog_100_method_1_code 21 = .ok (.iload 7, 2) := by decide +kernel
theorem d2_23 : decode prog_100_method_1_code 23 = .ok (.putfield 21, 3) := by decide +kernel
theorem d2_26 : decode prog_100_method_1_code 26 = .ok (.aload_n 0, 1) := by decide +kernel
theorem d2_27 : decode prog_100_method_1_code 27 = .ok (.iload 8, 2) := by decide +kernel
theorem d2_29 : decode prog_100_method_1_code 29 = .ok (.putfield 25, 3) := by decide +kernel
theorem d2_32 : decode prog_100_method_1_code 32 = .ok (.return_, 1) := by decide +kernel
theorem pn_2 : plainName "com/example/fieldbook/fieldbook/IndexFormat$Section" = true := by first | (simp [plainName, overriddenIn]; done) | decide +kernel
theorem ef_2 (m : MethodId) (x0 : Addr) (x1 : Int64) (x2 : Int64) (x3 : Int64) (x4 : Int32) (x5 : Int32) : entryFrame m #[(.ref x0), (.long x1), (.long x2), (.long x3), (.int x4), (.int x5)] 9 = mkF m 0 #[.val (.ref x0), .val (.long x1), .second, .val (.long x2), .second, .val (.long x3), .second, .val (.int x4), .val (.int x5)] [] := by first | (simp [entryFrame, mkF, argsToLocals, Value.category]; done) | rfl
def Q2 (Z : State) (b1 : Addr) (y1 : Int64) (y2 : Int64) (y3 : Int64) (x4 : Int32) (x5 : Int32) (h0 : Heap) (n0 : Nat) (v : Option Value) (h : Heap) (L : List Loc) : Prop := v = none ∧ Fr n0 L ∧ Keep h0 h [b1] ∧ Exa Z h b1 "com/example/fieldbook/fieldbook/IndexFormat$Section" ∧ Fld Z h b1 "com/example/fieldbook/fieldbook/IndexFormat$Section" "start" "J" (.long y1) ∧ Fld Z h b1 "com/example/fieldbook/fieldbook/IndexFormat$Section" "dictionary" "J" (.long y2) ∧ Fld Z h b1 "com/example/fieldbook/fieldbook/IndexFormat$Section" "table" "J" (.long y3) ∧ Fld Z h b1 "com/example/fieldbook/fieldbook/IndexFormat$Section" "terms" "I" (.int x4) ∧ Fld Z h b1 "com/example/fieldbook/fieldbook/IndexFormat$Section" "gathered" "Z" (.int (nar .boolean x5))
set_option maxRecDepth 65536 in
set_option maxHeartbeats 40000000 in
theorem rm2 (l : Launch) (Z : State) (a0 : Array Value) (hw : ∀ d ∈ tables_1, d.before a0 Z = true) (ws : List Jvm.Cond)  (b1 : Addr) (y1 : Int64) (y2 : Int64) (y3 : Int64) (x4 : Int32) (x5 : Int32) (h0 : Heap) (n0 : Nat) (Z0 : n0 ≤ h0.size) (F_start : Fld Z h0 b1 "com/example/fieldbook/fieldbook/IndexFormat$Section" "start" "J" (.long (0 : Int64))) (F_dictionary : Fld Z h0 b1 "com/example/fieldbook/fieldbook/IndexFormat$Section" "dictionary" "J" (.long (0 : Int64))) (F_table : Fld Z h0 b1 "com/example/fieldbook/fieldbook/IndexFormat$Section" "table" "J" (.long (0 : Int64))) (F_terms : Fld Z h0 b1 "com/example/fieldbook/fieldbook/IndexFormat$Section" "terms" "I" (.int (0 : Int32))) (F_gathered : Fld Z h0 b1 "com/example/fieldbook/fieldbook/IndexFormat$Section" "gathered" "Z" (.int (0 : Int32))) (E_b1 : Exa Z h0 b1 "com/example/fieldbook/fieldbook/IndexFormat$Section") (lo_b1 : n0 ≤ b1)  :
    MetFree l (⟨"com/example/fieldbook/fieldbook/IndexFormat$Section", "<init>", "(JJJIZ)V"⟩ : MethodName) (head1 (Jvm.Cond.code (⟨"com/example/fieldbook/fieldbook/IndexFormat$Section", "<init>", "(JJJIZ)V"⟩ : MethodName) prog_100_method_1_code 9 none :: ws) ({ frames := 2, cells := 0, slots := 0, locals := 24 } : Room)) (fun a U => a = #[(.ref b1), (.long y1), (.long y2), (.long y3), (.int x4), (.int x5)] ∧ Z.Warmed39 U.vm ∧ U.heap = h0) (fun _ _ _ _ _ => True) (fun _ U o U' => ∃ v L, o = .returned v ∧ Q2 Z b1 y1 y2 y3 x4 x5 h0 n0 v U'.heap L ∧ FrameEnd U o U' L ({ frames := 2, cells := 0, slots := 0, locals := 24 } : Room).cells ({ frames := 2, cells := 0, slots := 0, locals := 24 } : Room).slots) := by
  refine MetFree.of_bodySF (plainFor_of_name pn_2) hisR ?_
  intro p e s m args below meth c s₁ Bd hml0 hP hK
  obtain ⟨rfl, hZ, hh⟩ := hP
  have hx := Bd.exec
  have hby := Bd.bytes
  have hml : c.maxLocals = 9 := hml0
  have hown : s.vm.findClass "com/example/fieldbook/fieldbook/IndexFormat$Section" = some m.cls := findClass_of_methodNamed Bd.named
  have hnm := (name_of_methodNamed Bd.named Bd.method).1
  have X0 : Stand p l e ({ frames := 2, cells := 0, slots := 0, locals := 24 } : Room) s m #[(.ref b1), (.long y1), (.long y2), (.long y3), (.int x4), (.int x5)] below meth c s₁ [] 0 0 := Stand.of_body Bd
  have e0 : s₁.heap = h0 := by rw [← hh, Bd.state]; rfl
  have N0 := Fr.nil n0
  show own_Go p e below s (Q2 Z b1 y1 y2 y3 x4 x5 h0 n0) ({ frames := 2, cells := 0, slots := 0, locals := 24 } : Room).cells ({ frames := 2, cells := 0, slots := 0, locals := 24 } : Room).slots (s₁.setTop (entryFrame m #[(.ref b1), (.long y1), (.long y2), (.long y3), (.int x4), (.int x5)] 9))
  refine own_go (b := s₁.setTop (mkF m 0 #[.val (.ref b1), .val (.long y1), .second, .val (.long y2), .second, .val (.long y3), .second, .val (.int x4), .val (.int x5)] [])) (fun t k => castTop (ef_2 m b1 y1 y2 y3 x4 x5) k) ?_
  have K0 := Keep.refl h0 [b1]
  obtain ⟨_, _, ⟨T1, uL1, uk1, un1⟩, -, X1, ⟨Lc1, hQ1, ul1, uy1, uz1⟩, st1⟩ := X0.specialBack hx (y := (⟨"java/lang/Record", "<init>", "()V"⟩ : MethodName)) rfl hown (mvT hZ (hw _ (List.mem_of_getElem? (i := 7) rfl))) (mvT hZ (hw _ (List.mem_of_getElem? (i := 8) rfl))) (mvT hZ (hw _ (List.mem_of_getElem? (i := 11) rfl))) (by decide) (backOf (W := 0) (rm1 l Z a0 hw [] b1 h0 n0 Z0 ) hZ (hw _ (List.mem_of_getElem? (i := 11) rfl)) (hw _ (List.mem_of_getElem? (i := 10) rfl)) (by decide) (by decide)) (g := (mkF m 1 #[.val (.ref b1), .val (.long y1), .second, .val (.long y2), .second, .val (.long y3), .second, .val (.int x4), .val (.int x5)] [(.ref b1)])) rfl (by rw [hml]; rfl) (Steps.refl _) (a := b1) (argsL := []) (rest := []) (lenOf pd__28_29V rfl) rfl (by show 2 * 0 + _ ≤ _; exact Nat.le_of_eq rfl) (hb hby d2_1) (fun _ _ => ⟨rfl, e0, (by decide : 0 + 0 ≤ _), (by decide : 0 + 0 ≤ _)⟩)
  dsimp only [Pt.U, Pt.locs, Pt.cells, Pt.slots] at X1 ul1 uy1 uz1 st1 hQ1
  subst ul1 uy1 uz1
  obtain ⟨rfl, Nq1, e1⟩ := hQ1
  have N1 := Fr.app N0 Nq1
  obtain ⟨T2, h2, X2, e2, W2, st2⟩ := putF X1 hx hZ hown (host := "") (Or.inl (hw _ (List.mem_of_getElem? (i := 15) rfl))) Via.refl e1 F_start E_b1 (Or.inr ⟨(hw _ (List.mem_of_getElem? (i := 16) rfl)), rfl, hnm⟩) (hw _ (List.mem_of_getElem? (i := 2) rfl)) (ty := .long) (by decide) rfl rfl (g := (mkF m 6 #[.val (.ref b1), .val (.long y1), .second, .val (.long y2), .second, .val (.long y3), .second, .val (.int x4), .val (.int x5)] [(.long y1), (.ref b1)])) rfl rfl (hb hby d2_6)
  have N2 := Fr.snoc X2 N1 lo_b1
  have K2 := K0.wr W2 (Or.inl (List.mem_of_getElem? (i := 0) rfl))
  have F3 : Fld Z h2 b1 "com/example/fieldbook/fieldbook/IndexFormat$Section" "start" "J" (.long y1) := F_start.same W2
  have F4 := F_dictionary.other W2 (Or.inr (slot_ne (Or.inr (hw _ (List.mem_of_getElem? (i := 18) rfl))) (Or.inr (hw _ (List.mem_of_getElem? (i := 16) rfl))) (by decide) (t := .long) (t' := .long) (by decide) (by decide)))
  have F5 := F_table.other W2 (Or.inr (slot_ne (Or.inr (hw _ (List.mem_of_getElem? (i := 20) rfl))) (Or.inr (hw _ (List.mem_of_getElem? (i := 16) rfl))) (by decide) (t := .long) (t' := .long) (by decide) (by decide)))
  have F6 := F_terms.other W2 (Or.inr (slot_ne (Or.inr (hw _ (List.mem_of_getElem? (i := 22) rfl))) (Or.inr (hw _ (List.mem_of_getElem? (i := 16) rfl))) (by decide) (t := .int) (t' := .long) (by decide) (by decide)))
  have F7 := F_gathered.other W2 (Or.inr (slot_ne (Or.inr (hw _ (List.mem_of_getElem? (i := 24) rfl))) (Or.inr (hw _ (List.mem_of_getElem? (i := 16) rfl))) (by decide) (t := .boolean) (t' := .long) (by decide) (by decide)))
  have E8 := E_b1.wr W2
  have Z2 : n0 ≤ h2.size := by rw [W2.size]; exact Z0
  obtain ⟨T9, h9, X9, e9, W9, st9⟩ := putF X2 hx hZ hown (host := "") (Or.inl (hw _ (List.mem_of_getElem? (i := 17) rfl))) Via.refl e2 F4 E8 (Or.inr ⟨(hw _ (List.mem_of_getElem? (i := 18) rfl)), rfl, hnm⟩) (hw _ (List.mem_of_getElem? (i := 2) rfl)) (ty := .long) (by decide) rfl rfl (g := (mkF m 11 #[.val (.ref b1), .val (.long y1), .second, .val (.long y2), .second, .val (.long y3), .second, .val (.int x4), .val (.int x5)] [(.long y2), (.ref b1)])) rfl rfl (hb hby d2_11)
  have N9 := Fr.snoc X9 N2 lo_b1
  have K9 := K2.wr W9 (Or.inl (List.mem_of_getElem? (i := 0) rfl))
  have F10 : Fld Z h9 b1 "com/example/fieldbook/fieldbook/IndexFormat$Section" "dictionary" "J" (.long y2) := F4.same W9
  have F11 := F3.other W9 (Or.inr (slot_ne (Or.inr (hw _ (List.mem_of_getElem? (i := 16) rfl))) (Or.inr (hw _ (List.mem_of_getElem? (i := 18) rfl))) (by decide) (t := .long) (t' := .long) (by decide) (by decide)))
  have F12 := F5.other W9 (Or.inr (slot_ne (Or.inr (hw _ (List.mem_of_getElem? (i := 20) rfl))) (Or.inr (hw _ (List.mem_of_getElem? (i := 18) rfl))) (by decide) (t := .long) (t' := .long) (by decide) (by decide)))
  have F13 := F6.other W9 (Or.inr (slot_ne (Or.inr (hw _ (List.mem_of_getElem? (i := 22) rfl))) (Or.inr (hw _ (List.mem_of_getElem? (i := 18) rfl))) (by decide) (t := .int) (t' := .long) (by decide) (by decide)))
  have F14 := F7.other W9 (Or.inr (slot_ne (Or.inr (hw _ (List.mem_of_getElem? (i := 24) rfl))) (Or.inr (hw _ (List.mem_of_getElem? (i := 18) rfl))) (by decide) (t := .boolean) (t' := .long) (by decide) (by decide)))
  have E15 := E8.wr W9
  have Z9 : n0 ≤ h9.size := by rw [W9.size]; exact Z2
  obtain ⟨T16, h16, X16, e16, W16, st16⟩ := putF X9 hx hZ hown (host := "") (Or.inl (hw _ (List.mem_of_getElem? (i := 19) rfl))) Via.refl e9 F12 E15 (Or.inr ⟨(hw _ (List.mem_of_getElem? (i := 20) rfl)), rfl, hnm⟩) (hw _ (List.mem_of_getElem? (i := 2) rfl)) (ty := .long) (by decide) rfl rfl (g := (mkF m 17 #[.val (.ref b1), .val (.long y1), .second, .val (.long y2), .second, .val (.long y3), .second, .val (.int x4), .val (.int x5)] [(.long y3), (.ref b1)])) rfl rfl (hb hby d2_17)
  have N16 := Fr.snoc X16 N9 lo_b1
  have K16 := K9.wr W16 (Or.inl (List.mem_of_getElem? (i := 0) rfl))
  have F17 : Fld Z h16 b1 "com/example/fieldbook/fieldbook/IndexFormat$Section" "table" "J" (.long y3) := F12.same W16
  have F18 := F11.other W16 (Or.inr (slot_ne (Or.inr (hw _ (List.mem_of_getElem? (i := 16) rfl))) (Or.inr (hw _ (List.mem_of_getElem? (i := 20) rfl))) (by decide) (t := .long) (t' := .long) (by decide) (by decide)))
  have F19 := F10.other W16 (Or.inr (slot_ne (Or.inr (hw _ (List.mem_of_getElem? (i := 18) rfl))) (Or.inr (hw _ (List.mem_of_getElem? (i := 20) rfl))) (by decide) (t := .long) (t' := .long) (by decide) (by decide)))
  have F20 := F13.other W16 (Or.inr (slot_ne (Or.inr (hw _ (List.mem_of_getElem? (i := 22) rfl))) (Or.inr (hw _ (List.mem_of_getElem? (i := 20) rfl))) (by decide) (t := .int) (t' := .long) (by decide) (by decide)))
  have F21 := F14.other W16 (Or.inr (slot_ne (Or.inr (hw _ (List.mem_of_getElem? (i := 24) rfl))) (Or.inr (hw _ (List.mem_of_getElem? (i := 20) rfl))) (by decide) (t := .boolean) (t' := .long) (by decide) (by decide)))
  have E22 := E15.wr W16
  have Z16 : n0 ≤ h16.size := by rw [W16.size]; exact Z9
  obtain ⟨T23, h23, X23, e23, W23, st23⟩ := putF X16 hx hZ hown (host := "") (Or.inl (hw _ (List.mem_of_getElem? (i := 21) rfl))) Via.refl e16 F20 E22 (Or.inr ⟨(hw _ (List.mem_of_getElem? (i := 22) rfl)), rfl, hnm⟩) (hw _ (List.mem_of_getElem? (i := 2) rfl)) (ty := .int) (by decide) rfl rfl (g := (mkF m 23 #[.val (.ref b1), .val (.long y1), .second, .val (.long y2), .second, .val (.long y3), .second, .val (.int x4), .val (.int x5)] [(.int x4), (.ref b1)])) rfl rfl (hb hby d2_23)
  have N23 := Fr.snoc X23 N16 lo_b1
  have K23 := K16.wr W23 (Or.inl (List.mem_of_getElem? (i := 0) rfl))
  have F24 : Fld Z h23 b1 "com/example/fieldbook/fieldbook/IndexFormat$Section" "terms" "I" (.int x4) := F20.same W23
  have F25 := F18.other W23 (Or.inr (slot_ne (Or.inr (hw _ (List.mem_of_getElem? (i := 16) rfl))) (Or.inr (hw _ (List.mem_of_getElem? (i := 22) rfl))) (by decide) (t := .long) (t' := .int) (by decide) (by decide)))
  have F26 := F19.other W23 (Or.inr (slot_ne (Or.inr (hw _ (List.mem_of_getElem? (i := 18) rfl))) (Or.inr (hw _ (List.mem_of_getElem? (i := 22) rfl))) (by decide) (t := .long) (t' := .int) (by decide) (by decide)))
  have F27 := F17.other W23 (Or.inr (slot_ne (Or.inr (hw _ (List.mem_of_getElem? (i := 20) rfl))) (Or.inr (hw _ (List.mem_of_getElem? (i := 22) rfl))) (by decide) (t := .long) (t' := .int) (by decide) (by decide)))
  have F28 := F21.other W23 (Or.inr (slot_ne (Or.inr (hw _ (List.mem_of_getElem? (i := 24) rfl))) (Or.inr (hw _ (List.mem_of_getElem? (i := 22) rfl))) (by decide) (t := .boolean) (t' := .int) (by decide) (by decide)))
  have E29 := E22.wr W23
  have Z23 : n0 ≤ h23.size := by rw [W23.size]; exact Z16
  obtain ⟨T30, h30, X30, e30, W30, st30⟩ := putFN X23 hx hZ hown (hw _ (List.mem_of_getElem? (i := 23) rfl)) Via.refl e23 F28 E29 (Or.inr ⟨(hw _ (List.mem_of_getElem? (i := 24) rfl)), rfl, hnm⟩) (hw _ (List.mem_of_getElem? (i := 2) rfl)) (ty := .boolean) (by decide) (v' := (.int (nar .boolean x5))) rfl (fits_nar_bool _) (g := (mkF m 29 #[.val (.ref b1), .val (.long y1), .second, .val (.long y2), .second, .val (.long y3), .second, .val (.int x4), .val (.int x5)] [(.int x5), (.ref b1)])) rfl rfl (hb hby d2_29)
  have N30 := Fr.snoc X30 N23 lo_b1
  have K30 := K23.wr W30 (Or.inl (List.mem_of_getElem? (i := 0) rfl))
  have F31 : Fld Z h30 b1 "com/example/fieldbook/fieldbook/IndexFormat$Section" "gathered" "Z" (.int (nar .boolean x5)) := F28.same W30
  have F32 := F25.other W30 (Or.inr (slot_ne (Or.inr (hw _ (List.mem_of_getElem? (i := 16) rfl))) (Or.inr (hw _ (List.mem_of_getElem? (i := 24) rfl))) (by decide) (t := .long) (t' := .boolean) (by decide) (by decide)))
  have F33 := F26.other W30 (Or.inr (slot_ne (Or.inr (hw _ (List.mem_of_getElem? (i := 18) rfl))) (Or.inr (hw _ (List.mem_of_getElem? (i := 24) rfl))) (by decide) (t := .long) (t' := .boolean) (by decide) (by decide)))
  have F34 := F27.other W30 (Or.inr (slot_ne (Or.inr (hw _ (List.mem_of_getElem? (i := 20) rfl))) (Or.inr (hw _ (List.mem_of_getElem? (i := 24) rfl))) (by decide) (t := .long) (t' := .boolean) (by decide) (by decide)))
  have F35 := F24.other W30 (Or.inr (slot_ne (Or.inr (hw _ (List.mem_of_getElem? (i := 22) rfl))) (Or.inr (hw _ (List.mem_of_getElem? (i := 24) rfl))) (by decide) (t := .int) (t' := .boolean) (by decide) (by decide)))
  have E36 := E29.wr W30
  have Z30 : n0 ≤ h30.size := by rw [W30.size]; exact Z23
  refine own_end X30 Bd.notSynchronized (v := none) (fun _ => rfl) (fun fs hr => ?_) e30 ?_ (by decide) (by decide)
  · show Steps p.tables e below (s₁.setTop (mkF m 0 #[.val (.ref b1), .val (.long y1), .second, .val (.long y2), .second, .val (.long y3), .second, .val (.int x4), .val (.int x5)] [])) _
    refine XS.aloadN X0.here hx rfl (hb hby d2_0) rfl rfl ?_
    show Steps p.tables e below (s₁.setTop (mkF m 1 #[.val (.ref b1), .val (.long y1), .second, .val (.long y2), .second, .val (.long y3), .second, .val (.int x4), .val (.int x5)] [(.ref b1)])) _
    refine st1.trans ?_
    show Steps p.tables e below (T1.setTop (mkF m 4 #[.val (.ref b1), .val (.long y1), .second, .val (.long y2), .second, .val (.long y3), .second, .val (.int x4), .val (.int x5)] [])) _
    refine XS.aloadN X1.here hx rfl (hb hby d2_4) rfl rfl ?_
    show Steps p.tables e below (T1.setTop (mkF m 5 #[.val (.ref b1), .val (.long y1), .second, .val (.long y2), .second, .val (.long y3), .second, .val (.int x4), .val (.int x5)] [(.ref b1)])) _
    refine XS.lloadN X1.here hx rfl (hb hby d2_5) rfl ?_
    show Steps p.tables e below (T1.setTop (mkF m 6 #[.val (.ref b1), .val (.long y1), .second, .val (.long y2), .second, .val (.long y3), .second, .val (.int x4), .val (.int x5)] [(.long y1), (.ref b1)])) _
    refine st2 _ ?_
    show Steps p.tables e below (T2.setTop (mkF m 9 #[.val (.ref b1), .val (.long y1), .second, .val (.long y2), .second, .val (.long y3), .second, .val (.int x4), .val (.int x5)] [])) _
    refine XS.aloadN X2.here hx rfl (hb hby d2_9) rfl rfl ?_
    show Steps p.tables e below (T2.setTop (mkF m 10 #[.val (.ref b1), .val (.long y1), .second, .val (.long y2), .second, .val (.long y3), .second, .val (.int x4), .val (.int x5)] [(.ref b1)])) _
    refine XS.lloadN X2.here hx rfl (hb hby d2_10) rfl ?_
    show Steps p.tables e below (T2.setTop (mkF m 11 #[.val (.ref b1), .val (.long y1), .second, .val (.long y2), .second, .val (.long y3), .second, .val (.int x4), .val (.int x5)] [(.long y2), (.ref b1)])) _
    refine st9 _ ?_
    show Steps p.tables e below (T9.setTop (mkF m 14 #[.val (.ref b1), .val (.long y1), .second, .val (.long y2), .second, .val (.long y3), .second, .val (.int x4), .val (.int x5)] [])) _
    refine XS.aloadN X9.here hx rfl (hb hby d2_14) rfl rfl ?_
    show Steps p.tables e below (T9.setTop (mkF m 15 #[.val (.ref b1), .val (.long y1), .second, .val (.long y2), .second, .val (.long y3), .second, .val (.int x4), .val (.int x5)] [(.ref b1)])) _
    refine XS.lload X9.here hx rfl (hb hby d2_15) rfl ?_
    show Steps p.tables e below (T9.setTop (mkF m 17 #[.val (.ref b1), .val (.long y1), .second, .val (.long y2), .second, .val (.long y3), .second, .val (.int x4), .val (.int x5)] [(.long y3), (.ref b1)])) _
    refine st16 _ ?_
    show Steps p.tables e below (T16.setTop (mkF m 20 #[.val (.ref b1), .val (.long y1), .second, .val (.long y2), .second, .val (.long y3), .second, .val (.int x4), .val (.int x5)] [])) _
    refine XS.aloadN X16.here hx rfl (hb hby d2_20) rfl rfl ?_
    show Steps p.tables e below (T16.setTop (mkF m 21 #[.val (.ref b1), .val (.long y1), .second, .val (.long y2), .second, .val (.long y3), .second, .val (.int x4), .val (.int x5)] [(.ref b1)])) _
    refine XS.iload X16.here hx rfl (hb hby d2_21) rfl ?_
    show Steps p.tables e below (T16.setTop (mkF m 23 #[.val (.ref b1), .val (.long y1), .second, .val (.long y2), .second, .val (.long y3), .second, .val (.int x4), .val (.int x5)] [(.int x4), (.ref b1)])) _
    refine st23 _ ?_
    show Steps p.tables e below (T23.setTop (mkF m 26 #[.val (.ref b1), .val (.long y1), .second, .val (.long y2), .second, .val (.long y3), .second, .val (.int x4), .val (.int x5)] [])) _
    refine XS.aloadN X23.here hx rfl (hb hby d2_26) rfl rfl ?_
    show Steps p.tables e below (T23.setTop (mkF m 27 #[.val (.ref b1), .val (.long y1), .second, .val (.long y2), .second, .val (.long y3), .second, .val (.int x4), .val (.int x5)] [(.ref b1)])) _
    refine XS.iload X23.here hx rfl (hb hby d2_27) rfl ?_
    show Steps p.tables e below (T23.setTop (mkF m 29 #[.val (.ref b1), .val (.long y1), .second, .val (.long y2), .second, .val (.long y3), .second, .val (.int x4), .val (.int x5)] [(.int x5), (.ref b1)])) _
    refine st30 _ ?_
    show Steps p.tables e below (T30.setTop (mkF m 32 #[.val (.ref b1), .val (.long y1), .second, .val (.long y2), .second, .val (.long y3), .second, .val (.int x4), .val (.int x5)] [])) _
    exact X30.returnOut hx Bd.returns (hb hby d2_32) hr
  · exact ⟨rfl, N30, K30, E36, F32, F33, F34, F35, F31⟩
def own_lies_0 (y1 : Int64) (y2 : Int64) (y3 : Int64) (x4 : Int32) (y5 : Int64) (y6 : Int64)  : Int32 :=
  if y1 < y5 then
    (0 : Int32)
  else
    if y2 < y1 then
      (0 : Int32)
    else
      if y3 < y2 then
        (0 : Int32)
      else
        if x4 < (0 : Int32) then
          (0 : Int32)
        else
          if x4 < (2147483647 : Int32) then
            if y6 < y3 then
              (0 : Int32)
            else
              if (y6 - y3) < ((8 : Int64) * ((x4 + (1 : Int32)).toInt64)) then
                (0 : Int32)
              else
                (1 : Int32)
          else
            (0 : Int32)
theorem d3_0 : decode prog_100_method_3_code 0 = .ok (.aload_n 0, 1) := by decide +kernel
theorem d3_1 : decode prog_100_method_3_code 1 = .ok (.getfield 9, 3) := by decide +kernel
theorem d3_4 : decode prog_100_method_3_code 4 = .ok (.lload_n 1, 1) := by decide +kernel
theorem d3_5 : decode prog_100_method_3_code 5 = .ok (.lcmp, 1) := by decide +kernel
theorem d3_6 : decode prog_100_method_3_code 6 = .ok (.ifCond .lt 77, 3) := by decide +kernel
theorem d3_9 : decode prog_100_method_3_code 9 = .ok (.aload_n 0, 1) := by decide +kernel
theorem d3_10 : decode prog_100_method_3_code 10 = .ok (.getfield 15, 3) := by decide +kernel
theorem d3_13 : decode prog_100_method_3_code 13 = .ok (.aload_n 0, 1) := by decide +kernel
theorem d3_14 : decode prog_100_method_3_code 14 = .ok (.getfield 9, 3) := by decide +kernel
theorem d3_17 : decode prog_100_method_3_code 17 = .ok (.lcmp, 1) := by decide +kernel
theorem d3_18 : decode prog_100_method_3_code 18 = .ok (.ifCond .lt 65, 3) := by decide +kernel
theorem d3_21 : decode prog_100_method_3_code 21 = .ok (.aload_n 0, 1) := by decide +kernel
theorem d3_22 : decode prog_100_method_3_code 22 = .ok (.getfield 18, 3) := by decide +kernel
theorem d3_25 : decode prog_100_method_3_code 25 = .ok (.aload_n 0, 1) := by decide +kernel
theorem d3_26 : decode prog_100_method_3_code 26 = .ok (.getfield 15, 3) := by decide +kernel
theorem d3_29 : decode prog_100_method_3_code 29 = .ok (.lcmp, 1) := by decide +kernel
theorem d3_30 : decode prog_100_method_3_code 30 = .ok (.ifCond .lt 53, 3) := by decide +kernel
theorem d3_33 : decode prog_100_method_3_code 33 = .ok (.aload_n 0, 1) := by decide +kernel
theorem d3_34 : decode prog_100_method_3_code 34 = .ok (.getfield 21, 3) := by decide +kernel
theorem d3_37 : decode prog_100_method_3_code 37 = .ok (.ifCond .lt 46, 3) := by decide +kernel
theorem d3_40 : decode prog_100_method_3_code 40 = .ok (.aload_n 0, 1) := by decide +kernel
theorem d3_41 : decode prog_100_method_3_code 41 = .ok (.getfield 21, 3) := by decide +kernel
theorem d3_44 : decode prog_100_method_3_code 44 = .ok (.ldc 35, 2) := by decide +kernel
theorem d3_46 : decode prog_100_method_3_code 46 = .ok (.if_icmp .ge 37, 3) := by decide +kernel
theorem d3_49 : decode prog_100_method_3_code 49 = .ok (.lload_n 3, 1) := by decide +kernel
theorem d3_50 : decode prog_100_method_3_code 50 = .ok (.aload_n 0, 1) := by decide +kernel
theorem d3_51 : decode prog_100_method_3_code 51 = .ok (.getfield 18, 3) := by decide +kernel
theorem d3_54 : decode prog_100_method_3_code 54 = .ok (.lcmp, 1) := by decide +kernel
theorem d3_55 : decode prog_100_method_3_code 55 = .ok (.ifCond .lt 28, 3) := by decide +kernel
theorem d3_58 : decode prog_100_method_3_code 58 = .ok (.lload_n 3, 1) := by decide +kernel
theorem d3_59 : decode prog_100_method_3_code 59 = .ok (.aload_n 0, 1) := by decide +kernel
theorem d3_60 : decode prog_100_method_3_code 60 = .ok (.getfield 18, 3) := by decide +kernel
theorem d3_63 : decode prog_100_method_3_code 63 = .ok (.lsub, 1) := by decide +kernel
theorem d3_64 : decode prog_100_method_3_code 64 = .ok (.ldc2_w 36, 3) := by decide +kernel
theorem d3_67 : decode prog_100_method_3_code 67 = .ok (.aload_n 0, 1) := by decide +kernel
theorem d3_68 : decode prog_100_method_3_code 68 = .ok (.getfield 21, 3) := by decide +kernel
theorem d3_71 : decode prog_100_method_3_code 71 = .ok (.iconst 1, 1) := by decide +kernel
theorem d3_72 : decode prog_100_method_3_code 72 = .ok (.iadd, 1) := by decide +kernel
theorem d3_73 : decode prog_100_method_3_code 73 = .ok (.i2l, 1) := by decide +kernel
theorem d3_74 : decode prog_100_method_3_code 74 = .ok (.lmul, 1) := by decide +kernel
theorem d3_75 : decode prog_100_method_3_code 75 = .ok (.lcmp, 1) := by decide +kernel
theorem d3_76 : decode prog_100_method_3_code 76 = .ok (.ifCond .lt 7, 3) := by decide +kernel
theorem d3_79 : decode prog_100_method_3_code 79 = .ok (.iconst 1, 1) := by decide +kernel
theorem d3_80 : decode prog_100_method_3_code 80 = .ok (.goto 4, 3) := by decide +kernel
theorem d3_83 : decode prog_100_method_3_code 83 = .ok (.iconst 0, 1) := by decide +kernel
theorem d3_84 : decode prog_100_method_3_code 84 = .ok (.ireturn, 1) := by decide +kernel
theorem pn_3 : plainName "com/example/fieldbook/fieldbook/IndexFormat$Section" = true := by first | (simp [plainName, overriddenIn]; done) | decide +kernel
theorem ef_3 (m : MethodId) (x0 : Addr) (x1 : Int64) (x2 : Int64) : entryFrame m #[(.ref x0), (.long x1), (.long x2)] 5 = mkF m 0 #[.val (.ref x0), .val (.long x1), .second, .val (.long x2), .second] [] := by first | (simp [entryFrame, mkF, argsToLocals, Value.category]; done) | rfl
def Q3 (b1 : Addr) (y1 : Int64) (y2 : Int64) (y3 : Int64) (x4 : Int32) (y5 : Int64) (y6 : Int64) (h0 : Heap) (n0 : Nat) (v : Option Value) (h : Heap) (L : List Loc) : Prop := v = some (.int (own_lies_0 y1 y2 y3 x4 y5 y6)) ∧ Fr n0 L ∧ h = h0
set_option maxRecDepth 65536 in
set_option maxHeartbeats 40000000 in
theorem rm3 (l : Launch) (Z : State) (a0 : Array Value) (hw : ∀ d ∈ tables_1, d.before a0 Z = true) (ws : List Jvm.Cond) (b1 : Addr) (y1 : Int64) (y2 : Int64) (y3 : Int64) (x4 : Int32) (y5 : Int64) (y6 : Int64) (h0 : Heap) (n0 : Nat) (Z0 : n0 ≤ h0.size) (F_y1 : Fld Z h0 b1 "com/example/fieldbook/fieldbook/IndexFormat$Section" "start" "J" (.long y1)) (F_y2 : Fld Z h0 b1 "com/example/fieldbook/fieldbook/IndexFormat$Section" "dictionary" "J" (.long y2)) (F_y3 : Fld Z h0 b1 "com/example/fieldbook/fieldbook/IndexFormat$Section" "table" "J" (.long y3)) (F_x4 : Fld Z h0 b1 "com/example/fieldbook/fieldbook/IndexFormat$Section" "terms" "I" (.int x4))  :
    MetFree l (⟨"com/example/fieldbook/fieldbook/IndexFormat$Section", "liesWithin", "(JJ)Z"⟩ : MethodName) (head1 (Jvm.Cond.code (⟨"com/example/fieldbook/fieldbook/IndexFormat$Section", "liesWithin", "(JJ)Z"⟩ : MethodName) prog_100_method_3_code 5 (some .boolean) :: ws) ({ frames := 0, cells := 0, slots := 0, locals := 0 } : Room)) (fun a U => a = #[(.ref b1), (.long y5), (.long y6)] ∧ Z.Warmed39 U.vm ∧ U.heap = h0) (fun _ _ _ _ _ => True) (fun _ U o U' => ∃ v L, o = .returned v ∧ Q3 b1 y1 y2 y3 x4 y5 y6 h0 n0 v U'.heap L ∧ FrameEnd U o U' L ({ frames := 0, cells := 0, slots := 0, locals := 0 } : Room).cells ({ frames := 0, cells := 0, slots := 0, locals := 0 } : Room).slots) := by
  refine MetFree.of_bodySF (plainFor_of_name pn_3) hisR ?_
  intro p e s m args below meth c s₁ Bd hml0 hP hK
  obtain ⟨rfl, hZ, hh⟩ := hP
  have hx := Bd.exec
  have hby := Bd.bytes
  have hml : c.maxLocals = 5 := hml0
  have hown : s.vm.findClass "com/example/fieldbook/fieldbook/IndexFormat$Section" = some m.cls := findClass_of_methodNamed Bd.named
  have hnm := (name_of_methodNamed Bd.named Bd.method).1
  have X0 : Stand p l e ({ frames := 0, cells := 0, slots := 0, locals := 0 } : Room) s m #[(.ref b1), (.long y5), (.long y6)] below meth c s₁ [] 0 0 := Stand.of_body Bd
  have e0 : s₁.heap = h0 := by rw [← hh, Bd.state]; rfl
  have N0 := Fr.nil n0
  show own_Go p e below s (Q3 b1 y1 y2 y3 x4 y5 y6 h0 n0) ({ frames := 0, cells := 0, slots := 0, locals := 0 } : Room).cells ({ frames := 0, cells := 0, slots := 0, locals := 0 } : Room).slots (s₁.setTop (entryFrame m #[(.ref b1), (.long y5), (.long y6)] 5))
  refine own_go (b := s₁.setTop (mkF m 0 #[.val (.ref b1), .val (.long y5), .second, .val (.long y6), .second] [])) (fun t k => castTop (ef_3 m b1 y5 y6) k) ?_
  obtain ⟨T1, X1, e1, st1⟩ := getF X0 hx hZ hown (host := "") (Or.inl (hw _ (List.mem_of_getElem? (i := 15) rfl))) Via.refl e0 F_y1 (g := (mkF m 1 #[.val (.ref b1), .val (.long y5), .second, .val (.long y6), .second] [(.ref b1)])) rfl rfl (hb hby d3_1)
  refine own_go (b := T1.setTop (mkF m 6 #[.val (.ref b1), .val (.long y5), .second, .val (.long y6), .second] [(.int (lcmpW y1 y5))])) (fun t k => ?_) ?_
  · show Steps p.tables e below (s₁.setTop (mkF m 0 #[.val (.ref b1), .val (.long y5), .second, .val (.long y6), .second] [])) _
    refine XS.aloadN X0.here hx rfl (hb hby d3_0) rfl rfl ?_
    show Steps p.tables e below (s₁.setTop (mkF m 1 #[.val (.ref b1), .val (.long y5), .second, .val (.long y6), .second] [(.ref b1)])) _
    refine st1 _ ?_
    show Steps p.tables e below (T1.setTop (mkF m 4 #[.val (.ref b1), .val (.long y5), .second, .val (.long y6), .second] [(.long y1)])) _
    refine XS.lloadN X1.here hx rfl (hb hby d3_4) rfl ?_
    show Steps p.tables e below (T1.setTop (mkF m 5 #[.val (.ref b1), .val (.long y5), .second, .val (.long y6), .second] [(.long y5), (.long y1)])) _
    refine XS.lcmp X1.here hx rfl (hb hby d3_5) rfl ?_
    show Steps p.tables e below (T1.setTop (mkF m 6 #[.val (.ref b1), .val (.long y5), .second, .val (.long y6), .second] [(.int (lcmpW y1 y5))])) _
    exact k
  by_cases hc6 : y1 < y5
  · refine own_end X1 Bd.notSynchronized (v := some (.int (0 : Int32))) (fun h => by rw [Bd.returns] at h; cases h) (fun fs hr => ?_) e1 ?_ (by decide) (by decide)
    · show Steps p.tables e below (T1.setTop (mkF m 6 #[.val (.ref b1), .val (.long y5), .second, .val (.long y6), .second] [(.int (lcmpW y1 y5))])) _
      refine XS.ifYes X1.here hx rfl (pc0 := 6) (pc' := 83) rfl (hb hby d3_6) rfl ((if0 _ _).trans (tlt ((lw_lt y1 y5).mpr hc6)).1) (by decide) (by decide) ?_
      show Steps p.tables e below (T1.setTop (mkF m 83 #[.val (.ref b1), .val (.long y5), .second, .val (.long y6), .second] [])) _
      refine XS.iconst X1.here hx rfl (hb hby d3_83) ?_
      show Steps p.tables e below (T1.setTop (mkF m 84 #[.val (.ref b1), .val (.long y5), .second, .val (.long y6), .second] [(.int (0 : Int32))])) _
      exact retN X1 hx (t := .boolean) Bd.returns (by simp) (hb hby d3_84) hr
    · exact ⟨by rw [own_lies_0, if_pos hc6], N0, rfl⟩
  · obtain ⟨T2, X2, e2, st2⟩ := getF X1 hx hZ hown (host := "") (Or.inl (hw _ (List.mem_of_getElem? (i := 17) rfl))) Via.refl e1 F_y2 (g := (mkF m 10 #[.val (.ref b1), .val (.long y5), .second, .val (.long y6), .second] [(.ref b1)])) rfl rfl (hb hby d3_10)
    obtain ⟨T3, X3, e3, st3⟩ := getF X2 hx hZ hown (host := "") (Or.inl (hw _ (List.mem_of_getElem? (i := 15) rfl))) Via.refl e2 F_y1 (g := (mkF m 14 #[.val (.ref b1), .val (.long y5), .second, .val (.long y6), .second] [(.ref b1), (.long y2)])) rfl rfl (hb hby d3_14)
    refine own_go (b := T3.setTop (mkF m 18 #[.val (.ref b1), .val (.long y5), .second, .val (.long y6), .second] [(.int (lcmpW y2 y1))])) (fun t k => ?_) ?_
    · show Steps p.tables e below (T1.setTop (mkF m 6 #[.val (.ref b1), .val (.long y5), .second, .val (.long y6), .second] [(.int (lcmpW y1 y5))])) _
      refine XS.ifNo X1.here hx rfl (hb hby d3_6) rfl ((if0 _ _).trans (flt (fun q => hc6 ((lw_lt y1 y5).mp q))).1) ?_
      show Steps p.tables e below (T1.setTop (mkF m 9 #[.val (.ref b1), .val (.long y5), .second, .val (.long y6), .second] [])) _
      refine XS.aloadN X1.here hx rfl (hb hby d3_9) rfl rfl ?_
      show Steps p.tables e below (T1.setTop (mkF m 10 #[.val (.ref b1), .val (.long y5), .second, .val (.long y6), .second] [(.ref b1)])) _
      refine st2 _ ?_
      show Steps p.tables e below (T2.setTop (mkF m 13 #[.val (.ref b1), .val (.long y5), .second, .val (.long y6), .second] [(.long y2)])) _
      refine XS.aloadN X2.here hx rfl (hb hby d3_13) rfl rfl ?_
      show Steps p.tables e below (T2.setTop (mkF m 14 #[.val (.ref b1), .val (.long y5), .second, .val (.long y6), .second] [(.ref b1), (.long y2)])) _
      refine st3 _ ?_
      show Steps p.tables e below (T3.setTop (mkF m 17 #[.val (.ref b1), .val (.long y5), .second, .val (.long y6), .second] [(.long y1), (.long y2)])) _
      refine XS.lcmp X3.here hx rfl (hb hby d3_17) rfl ?_
      show Steps p.tables e below (T3.setTop (mkF m 18 #[.val (.ref b1), .val (.long y5), .second, .val (.long y6), .second] [(.int (lcmpW y2 y1))])) _
      exact k
    by_cases hc18 : y2 < y1
    · refine own_end X3 Bd.notSynchronized (v := some (.int (0 : Int32))) (fun h => by rw [Bd.returns] at h; cases h) (fun fs hr => ?_) e3 ?_ (by decide) (by decide)
      · show Steps p.tables e below (T3.setTop (mkF m 18 #[.val (.ref b1), .val (.long y5), .second, .val (.long y6), .second] [(.int (lcmpW y2 y1))])) _
        refine XS.ifYes X3.here hx rfl (pc0 := 18) (pc' := 83) rfl (hb hby d3_18) rfl ((if0 _ _).trans (tlt ((lw_lt y2 y1).mpr hc18)).1) (by decide) (by decide) ?_
        show Steps p.tables e below (T3.setTop (mkF m 83 #[.val (.ref b1), .val (.long y5), .second, .val (.long y6), .second] [])) _
        refine XS.iconst X3.here hx rfl (hb hby d3_83) ?_
        show Steps p.tables e below (T3.setTop (mkF m 84 #[.val (.ref b1), .val (.long y5), .second, .val (.long y6), .second] [(.int (0 : Int32))])) _
        exact retN X3 hx (t := .boolean) Bd.returns (by simp) (hb hby d3_84) hr
      · exact ⟨by rw [own_lies_0, if_neg hc6, if_pos hc18], N0, rfl⟩
    · obtain ⟨T4, X4, e4, st4⟩ := getF X3 hx hZ hown (host := "") (Or.inl (hw _ (List.mem_of_getElem? (i := 19) rfl))) Via.refl e3 F_y3 (g := (mkF m 22 #[.val (.ref b1), .val (.long y5), .second, .val (.long y6), .second] [(.ref b1)])) rfl rfl (hb hby d3_22)
      obtain ⟨T5, X5, e5, st5⟩ := getF X4 hx hZ hown (host := "") (Or.inl (hw _ (List.mem_of_getElem? (i := 17) rfl))) Via.refl e4 F_y2 (g := (mkF m 26 #[.val (.ref b1), .val (.long y5), .second, .val (.long y6), .second] [(.ref b1), (.long y3)])) rfl rfl (hb hby d3_26)
      refine own_go (b := T5.setTop (mkF m 30 #[.val (.ref b1), .val (.long y5), .second, .val (.long y6), .second] [(.int (lcmpW y3 y2))])) (fun t k => ?_) ?_
      · show Steps p.tables e below (T3.setTop (mkF m 18 #[.val (.ref b1), .val (.long y5), .second, .val (.long y6), .second] [(.int (lcmpW y2 y1))])) _
        refine XS.ifNo X3.here hx rfl (hb hby d3_18) rfl ((if0 _ _).trans (flt (fun q => hc18 ((lw_lt y2 y1).mp q))).1) ?_
        show Steps p.tables e below (T3.setTop (mkF m 21 #[.val (.ref b1), .val (.long y5), .second, .val (.long y6), .second] [])) _
        refine XS.aloadN X3.here hx rfl (hb hby d3_21) rfl rfl ?_
        show Steps p.tables e below (T3.setTop (mkF m 22 #[.val (.ref b1), .val (.long y5), .second, .val (.long y6), .second] [(.ref b1)])) _
        refine st4 _ ?_
        show Steps p.tables e below (T4.setTop (mkF m 25 #[.val (.ref b1), .val (.long y5), .second, .val (.long y6), .second] [(.long y3)])) _
        refine XS.aloadN X4.here hx rfl (hb hby d3_25) rfl rfl ?_
        show Steps p.tables e below (T4.setTop (mkF m 26 #[.val (.ref b1), .val (.long y5), .second, .val (.long y6), .second] [(.ref b1), (.long y3)])) _
        refine st5 _ ?_
        show Steps p.tables e below (T5.setTop (mkF m 29 #[.val (.ref b1), .val (.long y5), .second, .val (.long y6), .second] [(.long y2), (.long y3)])) _
        refine XS.lcmp X5.here hx rfl (hb hby d3_29) rfl ?_
        show Steps p.tables e below (T5.setTop (mkF m 30 #[.val (.ref b1), .val (.long y5), .second, .val (.long y6), .second] [(.int (lcmpW y3 y2))])) _
        exact k
      by_cases hc30 : y3 < y2
      · refine own_end X5 Bd.notSynchronized (v := some (.int (0 : Int32))) (fun h => by rw [Bd.returns] at h; cases h) (fun fs hr => ?_) e5 ?_ (by decide) (by decide)
        · show Steps p.tables e below (T5.setTop (mkF m 30 #[.val (.ref b1), .val (.long y5), .second, .val (.long y6), .second] [(.int (lcmpW y3 y2))])) _
          refine XS.ifYes X5.here hx rfl (pc0 := 30) (pc' := 83) rfl (hb hby d3_30) rfl ((if0 _ _).trans (tlt ((lw_lt y3 y2).mpr hc30)).1) (by decide) (by decide) ?_
          show Steps p.tables e below (T5.setTop (mkF m 83 #[.val (.ref b1), .val (.long y5), .second, .val (.long y6), .second] [])) _
          refine XS.iconst X5.here hx rfl (hb hby d3_83) ?_
          show Steps p.tables e below (T5.setTop (mkF m 84 #[.val (.ref b1), .val (.long y5), .second, .val (.long y6), .second] [(.int (0 : Int32))])) _
          exact retN X5 hx (t := .boolean) Bd.returns (by simp) (hb hby d3_84) hr
        · exact ⟨by rw [own_lies_0, if_neg hc6, if_neg hc18, if_pos hc30], N0, rfl⟩
      · obtain ⟨T6, X6, e6, st6⟩ := getF X5 hx hZ hown (host := "") (Or.inl (hw _ (List.mem_of_getElem? (i := 21) rfl))) Via.refl e5 F_x4 (g := (mkF m 34 #[.val (.ref b1), .val (.long y5), .second, .val (.long y6), .second] [(.ref b1)])) rfl rfl (hb hby d3_34)
        refine own_go (b := T6.setTop (mkF m 37 #[.val (.ref b1), .val (.long y5), .second, .val (.long y6), .second] [(.int x4)])) (fun t k => ?_) ?_
        · show Steps p.tables e below (T5.setTop (mkF m 30 #[.val (.ref b1), .val (.long y5), .second, .val (.long y6), .second] [(.int (lcmpW y3 y2))])) _
          refine XS.ifNo X5.here hx rfl (hb hby d3_30) rfl ((if0 _ _).trans (flt (fun q => hc30 ((lw_lt y3 y2).mp q))).1) ?_
          show Steps p.tables e below (T5.setTop (mkF m 33 #[.val (.ref b1), .val (.long y5), .second, .val (.long y6), .second] [])) _
          refine XS.aloadN X5.here hx rfl (hb hby d3_33) rfl rfl ?_
          show Steps p.tables e below (T5.setTop (mkF m 34 #[.val (.ref b1), .val (.long y5), .second, .val (.long y6), .second] [(.ref b1)])) _
          refine st6 _ ?_
          show Steps p.tables e below (T6.setTop (mkF m 37 #[.val (.ref b1), .val (.long y5), .second, .val (.long y6), .second] [(.int x4)])) _
          exact k
        by_cases hc37 : x4 < (0 : Int32)
        · refine own_end X6 Bd.notSynchronized (v := some (.int (0 : Int32))) (fun h => by rw [Bd.returns] at h; cases h) (fun fs hr => ?_) e6 ?_ (by decide) (by decide)
          · show Steps p.tables e below (T6.setTop (mkF m 37 #[.val (.ref b1), .val (.long y5), .second, .val (.long y6), .second] [(.int x4)])) _
            refine XS.ifYes X6.here hx rfl (pc0 := 37) (pc' := 83) rfl (hb hby d3_37) rfl ((if0 _ _).trans (tlt hc37).1) (by decide) (by decide) ?_
            show Steps p.tables e below (T6.setTop (mkF m 83 #[.val (.ref b1), .val (.long y5), .second, .val (.long y6), .second] [])) _
            refine XS.iconst X6.here hx rfl (hb hby d3_83) ?_
            show Steps p.tables e below (T6.setTop (mkF m 84 #[.val (.ref b1), .val (.long y5), .second, .val (.long y6), .second] [(.int (0 : Int32))])) _
            exact retN X6 hx (t := .boolean) Bd.returns (by simp) (hb hby d3_84) hr
          · exact ⟨by rw [own_lies_0, if_neg hc6, if_neg hc18, if_neg hc30, if_pos hc37], N0, rfl⟩
        · obtain ⟨T7, X7, e7, st7⟩ := getF X6 hx hZ hown (host := "") (Or.inl (hw _ (List.mem_of_getElem? (i := 21) rfl))) Via.refl e6 F_x4 (g := (mkF m 41 #[.val (.ref b1), .val (.long y5), .second, .val (.long y6), .second] [(.ref b1)])) rfl rfl (hb hby d3_41)
          refine own_go (b := T7.setTop (mkF m 46 #[.val (.ref b1), .val (.long y5), .second, .val (.long y6), .second] [(.int (2147483647 : Int32)), (.int x4)])) (fun t k => ?_) ?_
          · show Steps p.tables e below (T6.setTop (mkF m 37 #[.val (.ref b1), .val (.long y5), .second, .val (.long y6), .second] [(.int x4)])) _
            refine XS.ifNo X6.here hx rfl (hb hby d3_37) rfl ((if0 _ _).trans (flt hc37).1) ?_
            show Steps p.tables e below (T6.setTop (mkF m 40 #[.val (.ref b1), .val (.long y5), .second, .val (.long y6), .second] [])) _
            refine XS.aloadN X6.here hx rfl (hb hby d3_40) rfl rfl ?_
            show Steps p.tables e below (T6.setTop (mkF m 41 #[.val (.ref b1), .val (.long y5), .second, .val (.long y6), .second] [(.ref b1)])) _
            refine st7 _ ?_
            show Steps p.tables e below (T7.setTop (mkF m 44 #[.val (.ref b1), .val (.long y5), .second, .val (.long y6), .second] [(.int x4)])) _
            refine X7.ldcI hx hown (mvT hZ (hw _ (List.mem_of_getElem? (i := 34) rfl))) rfl (hb hby d3_44) ?_
            show Steps p.tables e below (T7.setTop (mkF m 46 #[.val (.ref b1), .val (.long y5), .second, .val (.long y6), .second] [(.int (2147483647 : Int32)), (.int x4)])) _
            exact k
          by_cases hc46 : x4 < (2147483647 : Int32)
          · obtain ⟨T8, X8, e8, st8⟩ := getF X7 hx hZ hown (host := "") (Or.inl (hw _ (List.mem_of_getElem? (i := 19) rfl))) Via.refl e7 F_y3 (g := (mkF m 51 #[.val (.ref b1), .val (.long y5), .second, .val (.long y6), .second] [(.ref b1), (.long y6)])) rfl rfl (hb hby d3_51)
            refine own_go (b := T8.setTop (mkF m 55 #[.val (.ref b1), .val (.long y5), .second, .val (.long y6), .second] [(.int (lcmpW y6 y3))])) (fun t k => ?_) ?_
            · show Steps p.tables e below (T7.setTop (mkF m 46 #[.val (.ref b1), .val (.long y5), .second, .val (.long y6), .second] [(.int (2147483647 : Int32)), (.int x4)])) _
              refine XS.icmpNo X7.here hx rfl (hb hby d3_46) rfl (tlt hc46).2.1 ?_
              show Steps p.tables e below (T7.setTop (mkF m 49 #[.val (.ref b1), .val (.long y5), .second, .val (.long y6), .second] [])) _
              refine XS.lloadN X7.here hx rfl (hb hby d3_49) rfl ?_
              show Steps p.tables e below (T7.setTop (mkF m 50 #[.val (.ref b1), .val (.long y5), .second, .val (.long y6), .second] [(.long y6)])) _
              refine XS.aloadN X7.here hx rfl (hb hby d3_50) rfl rfl ?_
              show Steps p.tables e below (T7.setTop (mkF m 51 #[.val (.ref b1), .val (.long y5), .second, .val (.long y6), .second] [(.ref b1), (.long y6)])) _
              refine st8 _ ?_
              show Steps p.tables e below (T8.setTop (mkF m 54 #[.val (.ref b1), .val (.long y5), .second, .val (.long y6), .second] [(.long y3), (.long y6)])) _
              refine XS.lcmp X8.here hx rfl (hb hby d3_54) rfl ?_
              show Steps p.tables e below (T8.setTop (mkF m 55 #[.val (.ref b1), .val (.long y5), .second, .val (.long y6), .second] [(.int (lcmpW y6 y3))])) _
              exact k
            by_cases hc55 : y6 < y3
            · refine own_end X8 Bd.notSynchronized (v := some (.int (0 : Int32))) (fun h => by rw [Bd.returns] at h; cases h) (fun fs hr => ?_) e8 ?_ (by decide) (by decide)
              · show Steps p.tables e below (T8.setTop (mkF m 55 #[.val (.ref b1), .val (.long y5), .second, .val (.long y6), .second] [(.int (lcmpW y6 y3))])) _
                refine XS.ifYes X8.here hx rfl (pc0 := 55) (pc' := 83) rfl (hb hby d3_55) rfl ((if0 _ _).trans (tlt ((lw_lt y6 y3).mpr hc55)).1) (by decide) (by decide) ?_
                show Steps p.tables e below (T8.setTop (mkF m 83 #[.val (.ref b1), .val (.long y5), .second, .val (.long y6), .second] [])) _
                refine XS.iconst X8.here hx rfl (hb hby d3_83) ?_
                show Steps p.tables e below (T8.setTop (mkF m 84 #[.val (.ref b1), .val (.long y5), .second, .val (.long y6), .second] [(.int (0 : Int32))])) _
                exact retN X8 hx (t := .boolean) Bd.returns (by simp) (hb hby d3_84) hr
              · exact ⟨by rw [own_lies_0, if_neg hc6, if_neg hc18, if_neg hc30, if_neg hc37, if_pos hc46, if_pos hc55], N0, rfl⟩
            · obtain ⟨T9, X9, e9, st9⟩ := getF X8 hx hZ hown (host := "") (Or.inl (hw _ (List.mem_of_getElem? (i := 19) rfl))) Via.refl e8 F_y3 (g := (mkF m 60 #[.val (.ref b1), .val (.long y5), .second, .val (.long y6), .second] [(.ref b1), (.long y6)])) rfl rfl (hb hby d3_60)
              obtain ⟨T10, X10, e10, st10⟩ := getF X9 hx hZ hown (host := "") (Or.inl (hw _ (List.mem_of_getElem? (i := 21) rfl))) Via.refl e9 F_x4 (g := (mkF m 68 #[.val (.ref b1), .val (.long y5), .second, .val (.long y6), .second] [(.ref b1), (.long (8 : Int64)), (.long (y6 - y3))])) rfl rfl (hb hby d3_68)
              refine own_go (b := T10.setTop (mkF m 76 #[.val (.ref b1), .val (.long y5), .second, .val (.long y6), .second] [(.int (lcmpW (y6 - y3) ((8 : Int64) * ((x4 + (1 : Int32)).toInt64))))])) (fun t k => ?_) ?_
              · show Steps p.tables e below (T8.setTop (mkF m 55 #[.val (.ref b1), .val (.long y5), .second, .val (.long y6), .second] [(.int (lcmpW y6 y3))])) _
                refine XS.ifNo X8.here hx rfl (hb hby d3_55) rfl ((if0 _ _).trans (flt (fun q => hc55 ((lw_lt y6 y3).mp q))).1) ?_
                show Steps p.tables e below (T8.setTop (mkF m 58 #[.val (.ref b1), .val (.long y5), .second, .val (.long y6), .second] [])) _
                refine XS.lloadN X8.here hx rfl (hb hby d3_58) rfl ?_
                show Steps p.tables e below (T8.setTop (mkF m 59 #[.val (.ref b1), .val (.long y5), .second, .val (.long y6), .second] [(.long y6)])) _
                refine XS.aloadN X8.here hx rfl (hb hby d3_59) rfl rfl ?_
                show Steps p.tables e below (T8.setTop (mkF m 60 #[.val (.ref b1), .val (.long y5), .second, .val (.long y6), .second] [(.ref b1), (.long y6)])) _
                refine st9 _ ?_
                show Steps p.tables e below (T9.setTop (mkF m 63 #[.val (.ref b1), .val (.long y5), .second, .val (.long y6), .second] [(.long y3), (.long y6)])) _
                refine XS.lsub X9.here hx rfl (hb hby d3_63) rfl ?_
                show Steps p.tables e below (T9.setTop (mkF m 64 #[.val (.ref b1), .val (.long y5), .second, .val (.long y6), .second] [(.long (y6 - y3))])) _
                refine X9.ldc2J hx hown (mvT hZ (hw _ (List.mem_of_getElem? (i := 36) rfl))) rfl (hb hby d3_64) ?_
                show Steps p.tables e below (T9.setTop (mkF m 67 #[.val (.ref b1), .val (.long y5), .second, .val (.long y6), .second] [(.long (8 : Int64)), (.long (y6 - y3))])) _
                refine XS.aloadN X9.here hx rfl (hb hby d3_67) rfl rfl ?_
                show Steps p.tables e below (T9.setTop (mkF m 68 #[.val (.ref b1), .val (.long y5), .second, .val (.long y6), .second] [(.ref b1), (.long (8 : Int64)), (.long (y6 - y3))])) _
                refine st10 _ ?_
                show Steps p.tables e below (T10.setTop (mkF m 71 #[.val (.ref b1), .val (.long y5), .second, .val (.long y6), .second] [(.int x4), (.long (8 : Int64)), (.long (y6 - y3))])) _
                refine XS.iconst X10.here hx rfl (hb hby d3_71) ?_
                show Steps p.tables e below (T10.setTop (mkF m 72 #[.val (.ref b1), .val (.long y5), .second, .val (.long y6), .second] [(.int (1 : Int32)), (.int x4), (.long (8 : Int64)), (.long (y6 - y3))])) _
                refine XS.iadd X10.here hx rfl (hb hby d3_72) rfl ?_
                show Steps p.tables e below (T10.setTop (mkF m 73 #[.val (.ref b1), .val (.long y5), .second, .val (.long y6), .second] [(.int (x4 + (1 : Int32))), (.long (8 : Int64)), (.long (y6 - y3))])) _
                refine XS.i2l X10.here hx rfl (hb hby d3_73) rfl ?_
                show Steps p.tables e below (T10.setTop (mkF m 74 #[.val (.ref b1), .val (.long y5), .second, .val (.long y6), .second] [(.long ((x4 + (1 : Int32)).toInt64)), (.long (8 : Int64)), (.long (y6 - y3))])) _
                refine XS.lmul X10.here hx rfl (hb hby d3_74) rfl ?_
                show Steps p.tables e below (T10.setTop (mkF m 75 #[.val (.ref b1), .val (.long y5), .second, .val (.long y6), .second] [(.long ((8 : Int64) * ((x4 + (1 : Int32)).toInt64))), (.long (y6 - y3))])) _
                refine XS.lcmp X10.here hx rfl (hb hby d3_75) rfl ?_
                show Steps p.tables e below (T10.setTop (mkF m 76 #[.val (.ref b1), .val (.long y5), .second, .val (.long y6), .second] [(.int (lcmpW (y6 - y3) ((8 : Int64) * ((x4 + (1 : Int32)).toInt64))))])) _
                exact k
              by_cases hc76 : (y6 - y3) < ((8 : Int64) * ((x4 + (1 : Int32)).toInt64))
              · refine own_end X10 Bd.notSynchronized (v := some (.int (0 : Int32))) (fun h => by rw [Bd.returns] at h; cases h) (fun fs hr => ?_) e10 ?_ (by decide) (by decide)
                · show Steps p.tables e below (T10.setTop (mkF m 76 #[.val (.ref b1), .val (.long y5), .second, .val (.long y6), .second] [(.int (lcmpW (y6 - y3) ((8 : Int64) * ((x4 + (1 : Int32)).toInt64))))])) _
                  refine XS.ifYes X10.here hx rfl (pc0 := 76) (pc' := 83) rfl (hb hby d3_76) rfl ((if0 _ _).trans (tlt ((lw_lt (y6 - y3) ((8 : Int64) * ((x4 + (1 : Int32)).toInt64))).mpr hc76)).1) (by decide) (by decide) ?_
                  show Steps p.tables e below (T10.setTop (mkF m 83 #[.val (.ref b1), .val (.long y5), .second, .val (.long y6), .second] [])) _
                  refine XS.iconst X10.here hx rfl (hb hby d3_83) ?_
                  show Steps p.tables e below (T10.setTop (mkF m 84 #[.val (.ref b1), .val (.long y5), .second, .val (.long y6), .second] [(.int (0 : Int32))])) _
                  exact retN X10 hx (t := .boolean) Bd.returns (by simp) (hb hby d3_84) hr
                · exact ⟨by rw [own_lies_0, if_neg hc6, if_neg hc18, if_neg hc30, if_neg hc37, if_pos hc46, if_neg hc55, if_pos hc76], N0, rfl⟩
              · refine own_end X10 Bd.notSynchronized (v := some (.int (1 : Int32))) (fun h => by rw [Bd.returns] at h; cases h) (fun fs hr => ?_) e10 ?_ (by decide) (by decide)
                · show Steps p.tables e below (T10.setTop (mkF m 76 #[.val (.ref b1), .val (.long y5), .second, .val (.long y6), .second] [(.int (lcmpW (y6 - y3) ((8 : Int64) * ((x4 + (1 : Int32)).toInt64))))])) _
                  refine XS.ifNo X10.here hx rfl (hb hby d3_76) rfl ((if0 _ _).trans (flt (fun q => hc76 ((lw_lt (y6 - y3) ((8 : Int64) * ((x4 + (1 : Int32)).toInt64))).mp q))).1) ?_
                  show Steps p.tables e below (T10.setTop (mkF m 79 #[.val (.ref b1), .val (.long y5), .second, .val (.long y6), .second] [])) _
                  refine XS.iconst X10.here hx rfl (hb hby d3_79) ?_
                  show Steps p.tables e below (T10.setTop (mkF m 80 #[.val (.ref b1), .val (.long y5), .second, .val (.long y6), .second] [(.int (1 : Int32))])) _
                  refine XS.goto X10.here hx rfl (pc0 := 80) (pc' := 84) rfl (hb hby d3_80) (by decide) (by decide) ?_
                  show Steps p.tables e below (T10.setTop (mkF m 84 #[.val (.ref b1), .val (.long y5), .second, .val (.long y6), .second] [(.int (1 : Int32))])) _
                  exact retN X10 hx (t := .boolean) Bd.returns (by simp) (hb hby d3_84) hr
                · exact ⟨by rw [own_lies_0, if_neg hc6, if_neg hc18, if_neg hc30, if_neg hc37, if_pos hc46, if_neg hc55, if_neg hc76], N0, rfl⟩
          · refine own_end X7 Bd.notSynchronized (v := some (.int (0 : Int32))) (fun h => by rw [Bd.returns] at h; cases h) (fun fs hr => ?_) e7 ?_ (by decide) (by decide)
            · show Steps p.tables e below (T7.setTop (mkF m 46 #[.val (.ref b1), .val (.long y5), .second, .val (.long y6), .second] [(.int (2147483647 : Int32)), (.int x4)])) _
              refine XS.icmpYes X7.here hx rfl (pc0 := 46) (pc' := 83) rfl (hb hby d3_46) rfl (flt hc46).2.1 (by decide) (by decide) ?_
              show Steps p.tables e below (T7.setTop (mkF m 83 #[.val (.ref b1), .val (.long y5), .second, .val (.long y6), .second] [])) _
              refine XS.iconst X7.here hx rfl (hb hby d3_83) ?_
              show Steps p.tables e below (T7.setTop (mkF m 84 #[.val (.ref b1), .val (.long y5), .second, .val (.long y6), .second] [(.int (0 : Int32))])) _
              exact retN X7 hx (t := .boolean) Bd.returns (by simp) (hb hby d3_84) hr
            · exact ⟨by rw [own_lies_0, if_neg hc6, if_neg hc18, if_neg hc30, if_neg hc37, if_neg hc46], N0, rfl⟩
def own_expd_0 (y5 : Int64) (y1 : Int64) (y2 : Int64) (y3 : Int64) (x4 : Int32) (y6 : Int64)  : Int32 :=
  if y1 < y5 then
    (0 : Int32)
  else
    if y2 < y1 then
      (0 : Int32)
    else
      if y3 < y2 then
        (0 : Int32)
      else
        if x4 < (0 : Int32) then
          (0 : Int32)
        else
          if x4 = (2147483647 : Int32) then
            (0 : Int32)
          else
            if y6 < (0 : Int64) then
              (0 : Int32)
            else
              if (y6 - (((8 : Int64) * (x4.toInt64)) + (8 : Int64))) < y3 then
                (0 : Int32)
              else
                (1 : Int32)
theorem d4_0 : decode method_3_code 0 = .ok (.lload_n 2, 1) := by decide +kernel
theorem d4_1 : decode method_3_code 1 = .ok (.lload_n 0, 1) := by decide +kernel
theorem d4_2 : decode method_3_code 2 = .ok (.lcmp, 1) := by decide +kernel
theorem d4_3 : decode method_3_code 3 = .ok (.ifCond .ge 5, 3) := by decide +kernel
theorem d4_6 : decode method_3_code 6 = .ok (.iconst 0, 1) := by decide +kernel
theorem d4_7 : decode method_3_code 7 = .ok (.ireturn, 1) := by decide +kernel
theorem d4_8 : decode method_3_code 8 = .ok (.lload 4, 2) := by decide +kernel
theorem d4_10 : decode method_3_code 10 = .ok (.lload_n 2, 1) := by decide +kernel
theorem d4_11 : decode method_3_code 11 = .ok (.lcmp, 1) := by decide +kernel
theorem d4_12 : decode method_3_code 12 = .ok (.ifCond .ge 5, 3) := by decide +kernel
theorem d4_15 : decode method_3_code 15 = .ok (.iconst 0, 1) := by decide +kernel
theorem d4_16 : decode method_3_code 16 = .ok (.ireturn, 1) := by decide +kernel
theorem d4_17 : decode method_3_code 17 = .ok (.lload 6, 2) := by decide +kernel
theorem d4_19 : decode method_3_code 19 = .ok (.lload 4, 2) := by decide +kernel
theorem d4_21 : decode method_3_code 21 = .ok (.lcmp, 1) := by decide +kernel
theorem d4_22 : decode method_3_code 22 = .ok (.ifCond .ge 5, 3) := by decide +kernel
theorem d4_25 : decode method_3_code 25 = .ok (.iconst 0, 1) := by decide +kernel
theorem d4_26 : decode method_3_code 26 = .ok (.ireturn, 1) := by decide +kernel
theorem d4_27 : decode method_3_code 27 = .ok (.iload 8, 2) := by decide +kernel
theorem d4_29 : decode method_3_code 29 = .ok (.ifCond .ge 5, 3) := by decide +kernel
theorem d4_32 : decode method_3_code 32 = .ok (.iconst 0, 1) := by decide +kernel
theorem d4_33 : decode method_3_code 33 = .ok (.ireturn, 1) := by decide +kernel
theorem d4_34 : decode method_3_code 34 = .ok (.iload 8, 2) := by decide +kernel
theorem d4_36 : decode method_3_code 36 = .ok (.ldc 28, 2) := by decide +kernel
theorem d4_38 : decode method_3_code 38 = .ok (.if_icmp .ne 5, 3) := by decide +kernel
theorem d4_41 : decode method_3_code 41 = .ok (.iconst 0, 1) := by decide +kernel
theorem d4_42 : decode method_3_code 42 = .ok (.ireturn, 1) := by decide +kernel
theorem d4_43 : decode method_3_code 43 = .ok (.lload 9, 2) := by decide +kernel
theorem d4_45 : decode method_3_code 45 = .ok (.lconst 0, 1) := by decide +kernel
theorem d4_46 : decode method_3_code 46 = .ok (.lcmp, 1) := by decide +kernel
theorem d4_47 : decode method_3_code 47 = .ok (.ifCond .ge 5, 3) := by decide +kernel
theorem d4_50 : decode method_3_code 50 = .ok (.iconst 0, 1) := by decide +kernel
theorem d4_51 : decode method_3_code 51 = .ok (.ireturn, 1) := by decide +kernel
theorem d4_52 : decode method_3_code 52 = .ok (.ldc2_w 29, 3) := by decide +kernel
theorem d4_55 : decode method_3_code 55 = .ok (.iload 8, 2) := by decide +kernel
theorem d4_57 : decode method_3_code 57 = .ok (.i2l, 1) := by decide +kernel
theorem d4_58 : decode method_3_code 58 = .ok (.lmul, 1) := by decide +kernel
theorem d4_59 : decode method_3_code 59 = .ok (.ldc2_w 29, 3) := by decide +kernel
theorem d4_62 : decode method_3_code 62 = .ok (.ladd, 1) := by decide +kernel
theorem d4_63 : decode method_3_code 63 = .ok (.lstore 11, 2) := by decide +kernel
theorem d4_65 : decode method_3_code 65 = .ok (.lload 6, 2) := by decide +kernel
theorem d4_67 : decode method_3_code 67 = .ok (.lload 9, 2) := by decide +kernel
theorem d4_69 : decode method_3_code 69 = .ok (.lload 11, 2) := by decide +kernel
theorem d4_71 : decode method_3_code 71 = .ok (.lsub, 1) := by decide +kernel
theorem d4_72 : decode method_3_code 72 = .ok (.lcmp, 1) := by decide +kernel
theorem d4_73 : decode method_3_code 73 = .ok (.ifCond .gt 7, 3) := by decide +kernel
theorem d4_76 : decode method_3_code 76 = .ok (.iconst 1, 1) := by decide +kernel
theorem d4_77 : decode method_3_code 77 = .ok (.goto 4, 3) := by decide +kernel
theorem d4_80 : decode method_3_code 80 = .ok (.iconst 0, 1) := by decide +kernel
theorem d4_81 : decode method_3_code 81 = .ok (.ireturn, 1) := by decide +kernel
theorem pn_4 : plainName "com/example/fieldbook/fieldbook/SectionLiesWithinPinLaw" = true := by first | (simp [plainName, overriddenIn]; done) | decide +kernel
theorem ef_4 (m : MethodId) (x0 : Int64) (x1 : Int64) (x2 : Int64) (x3 : Int64) (x4 : Int32) (x5 : Int64) : entryFrame m #[(.long x0), (.long x1), (.long x2), (.long x3), (.int x4), (.long x5)] 13 = mkF m 0 #[.val (.long x0), .second, .val (.long x1), .second, .val (.long x2), .second, .val (.long x3), .second, .val (.int x4), .val (.long x5), .second, .unset, .unset] [] := by first | (simp [entryFrame, mkF, argsToLocals, Value.category]; done) | rfl
def Q4 (y5 : Int64) (y1 : Int64) (y2 : Int64) (y3 : Int64) (x4 : Int32) (y6 : Int64) (h0 : Heap) (n0 : Nat) (v : Option Value) (h : Heap) (L : List Loc) : Prop := v = some (.int (own_expd_0 y5 y1 y2 y3 x4 y6)) ∧ Fr n0 L ∧ h = h0
set_option maxRecDepth 65536 in
set_option maxHeartbeats 40000000 in
theorem rm4 (l : Launch) (Z : State) (a0 : Array Value) (hw : ∀ d ∈ tables_1, d.before a0 Z = true) (ws : List Jvm.Cond) (y5 : Int64) (y1 : Int64) (y2 : Int64) (y3 : Int64) (x4 : Int32) (y6 : Int64) (h0 : Heap) (n0 : Nat) (Z0 : n0 ≤ h0.size)   :
    MetFree l (⟨"com/example/fieldbook/fieldbook/SectionLiesWithinPinLaw", "expected", "(JJJJIJ)Z"⟩ : MethodName) (head1 (Jvm.Cond.code (⟨"com/example/fieldbook/fieldbook/SectionLiesWithinPinLaw", "expected", "(JJJJIJ)Z"⟩ : MethodName) method_3_code 13 (some .boolean) :: ws) ({ frames := 0, cells := 0, slots := 0, locals := 0 } : Room)) (fun a U => a = #[(.long y5), (.long y1), (.long y2), (.long y3), (.int x4), (.long y6)] ∧ Z.Warmed39 U.vm ∧ U.heap = h0) (fun _ _ _ _ _ => True) (fun _ U o U' => ∃ v L, o = .returned v ∧ Q4 y5 y1 y2 y3 x4 y6 h0 n0 v U'.heap L ∧ FrameEnd U o U' L ({ frames := 0, cells := 0, slots := 0, locals := 0 } : Room).cells ({ frames := 0, cells := 0, slots := 0, locals := 0 } : Room).slots) := by
  refine MetFree.of_bodySF (plainFor_of_name pn_4) hisR ?_
  intro p e s m args below meth c s₁ Bd hml0 hP hK
  obtain ⟨rfl, hZ, hh⟩ := hP
  have hx := Bd.exec
  have hby := Bd.bytes
  have hml : c.maxLocals = 13 := hml0
  have hown : s.vm.findClass "com/example/fieldbook/fieldbook/SectionLiesWithinPinLaw" = some m.cls := findClass_of_methodNamed Bd.named
  have hnm := (name_of_methodNamed Bd.named Bd.method).1
  have X0 : Stand p l e ({ frames := 0, cells := 0, slots := 0, locals := 0 } : Room) s m #[(.long y5), (.long y1), (.long y2), (.long y3), (.int x4), (.long y6)] below meth c s₁ [] 0 0 := Stand.of_body Bd
  have e0 : s₁.heap = h0 := by rw [← hh, Bd.state]; rfl
  have N0 := Fr.nil n0
  show own_Go p e below s (Q4 y5 y1 y2 y3 x4 y6 h0 n0) ({ frames := 0, cells := 0, slots := 0, locals := 0 } : Room).cells ({ frames := 0, cells := 0, slots := 0, locals := 0 } : Room).slots (s₁.setTop (entryFrame m #[(.long y5), (.long y1), (.long y2), (.long y3), (.int x4), (.long y6)] 13))
  refine own_go (b := s₁.setTop (mkF m 0 #[.val (.long y5), .second, .val (.long y1), .second, .val (.long y2), .second, .val (.long y3), .second, .val (.int x4), .val (.long y6), .second, .unset, .unset] [])) (fun t k => castTop (ef_4 m y5 y1 y2 y3 x4 y6) k) ?_
  refine own_go (b := s₁.setTop (mkF m 3 #[.val (.long y5), .second, .val (.long y1), .second, .val (.long y2), .second, .val (.long y3), .second, .val (.int x4), .val (.long y6), .second, .unset, .unset] [(.int (lcmpW y1 y5))])) (fun t k => ?_) ?_
  · show Steps p.tables e below (s₁.setTop (mkF m 0 #[.val (.long y5), .second, .val (.long y1), .second, .val (.long y2), .second, .val (.long y3), .second, .val (.int x4), .val (.long y6), .second, .unset, .unset] [])) _
    refine XS.lloadN X0.here hx rfl (hb hby d4_0) rfl ?_
    show Steps p.tables e below (s₁.setTop (mkF m 1 #[.val (.long y5), .second, .val (.long y1), .second, .val (.long y2), .second, .val (.long y3), .second, .val (.int x4), .val (.long y6), .second, .unset, .unset] [(.long y1)])) _
    refine XS.lloadN X0.here hx rfl (hb hby d4_1) rfl ?_
    show Steps p.tables e below (s₁.setTop (mkF m 2 #[.val (.long y5), .second, .val (.long y1), .second, .val (.long y2), .second, .val (.long y3), .second, .val (.int x4), .val (.long y6), .second, .unset, .unset] [(.long y5), (.long y1)])) _
    refine XS.lcmp X0.here hx rfl (hb hby d4_2) rfl ?_
    show Steps p.tables e below (s₁.setTop (mkF m 3 #[.val (.long y5), .second, .val (.long y1), .second, .val (.long y2), .second, .val (.long y3), .second, .val (.int x4), .val (.long y6), .second, .unset, .unset] [(.int (lcmpW y1 y5))])) _
    exact k
  by_cases hc3 : y1 < y5
  · refine own_end X0 Bd.notSynchronized (v := some (.int (0 : Int32))) (fun h => by rw [Bd.returns] at h; cases h) (fun fs hr => ?_) e0 ?_ (by decide) (by decide)
    · show Steps p.tables e below (s₁.setTop (mkF m 3 #[.val (.long y5), .second, .val (.long y1), .second, .val (.long y2), .second, .val (.long y3), .second, .val (.int x4), .val (.long y6), .second, .unset, .unset] [(.int (lcmpW y1 y5))])) _
      refine XS.ifNo X0.here hx rfl (hb hby d4_3) rfl ((if0 _ _).trans (tlt ((lw_lt y1 y5).mpr hc3)).2.1) ?_
      show Steps p.tables e below (s₁.setTop (mkF m 6 #[.val (.long y5), .second, .val (.long y1), .second, .val (.long y2), .second, .val (.long y3), .second, .val (.int x4), .val (.long y6), .second, .unset, .unset] [])) _
      refine XS.iconst X0.here hx rfl (hb hby d4_6) ?_
      show Steps p.tables e below (s₁.setTop (mkF m 7 #[.val (.long y5), .second, .val (.long y1), .second, .val (.long y2), .second, .val (.long y3), .second, .val (.int x4), .val (.long y6), .second, .unset, .unset] [(.int (0 : Int32))])) _
      exact retN X0 hx (t := .boolean) Bd.returns (by simp) (hb hby d4_7) hr
    · exact ⟨by rw [own_expd_0, if_pos hc3], N0, rfl⟩
  · refine own_go (b := s₁.setTop (mkF m 12 #[.val (.long y5), .second, .val (.long y1), .second, .val (.long y2), .second, .val (.long y3), .second, .val (.int x4), .val (.long y6), .second, .unset, .unset] [(.int (lcmpW y2 y1))])) (fun t k => ?_) ?_
    · show Steps p.tables e below (s₁.setTop (mkF m 3 #[.val (.long y5), .second, .val (.long y1), .second, .val (.long y2), .second, .val (.long y3), .second, .val (.int x4), .val (.long y6), .second, .unset, .unset] [(.int (lcmpW y1 y5))])) _
      refine XS.ifYes X0.here hx rfl (pc0 := 3) (pc' := 8) rfl (hb hby d4_3) rfl ((if0 _ _).trans (flt (fun q => hc3 ((lw_lt y1 y5).mp q))).2.1) (by decide) (by decide) ?_
      show Steps p.tables e below (s₁.setTop (mkF m 8 #[.val (.long y5), .second, .val (.long y1), .second, .val (.long y2), .second, .val (.long y3), .second, .val (.int x4), .val (.long y6), .second, .unset, .unset] [])) _
      refine XS.lload X0.here hx rfl (hb hby d4_8) rfl ?_
      show Steps p.tables e below (s₁.setTop (mkF m 10 #[.val (.long y5), .second, .val (.long y1), .second, .val (.long y2), .second, .val (.long y3), .second, .val (.int x4), .val (.long y6), .second, .unset, .unset] [(.long y2)])) _
      refine XS.lloadN X0.here hx rfl (hb hby d4_10) rfl ?_
      show Steps p.tables e below (s₁.setTop (mkF m 11 #[.val (.long y5), .second, .val (.long y1), .second, .val (.long y2), .second, .val (.long y3), .second, .val (.int x4), .val (.long y6), .second, .unset, .unset] [(.long y1), (.long y2)])) _
      refine XS.lcmp X0.here hx rfl (hb hby d4_11) rfl ?_
      show Steps p.tables e below (s₁.setTop (mkF m 12 #[.val (.long y5), .second, .val (.long y1), .second, .val (.long y2), .second, .val (.long y3), .second, .val (.int x4), .val (.long y6), .second, .unset, .unset] [(.int (lcmpW y2 y1))])) _
      exact k
    by_cases hc12 : y2 < y1
    · refine own_end X0 Bd.notSynchronized (v := some (.int (0 : Int32))) (fun h => by rw [Bd.returns] at h; cases h) (fun fs hr => ?_) e0 ?_ (by decide) (by decide)
      · show Steps p.tables e below (s₁.setTop (mkF m 12 #[.val (.long y5), .second, .val (.long y1), .second, .val (.long y2), .second, .val (.long y3), .second, .val (.int x4), .val (.long y6), .second, .unset, .unset] [(.int (lcmpW y2 y1))])) _
        refine XS.ifNo X0.here hx rfl (hb hby d4_12) rfl ((if0 _ _).trans (tlt ((lw_lt y2 y1).mpr hc12)).2.1) ?_
        show Steps p.tables e below (s₁.setTop (mkF m 15 #[.val (.long y5), .second, .val (.long y1), .second, .val (.long y2), .second, .val (.long y3), .second, .val (.int x4), .val (.long y6), .second, .unset, .unset] [])) _
        refine XS.iconst X0.here hx rfl (hb hby d4_15) ?_
        show Steps p.tables e below (s₁.setTop (mkF m 16 #[.val (.long y5), .second, .val (.long y1), .second, .val (.long y2), .second, .val (.long y3), .second, .val (.int x4), .val (.long y6), .second, .unset, .unset] [(.int (0 : Int32))])) _
        exact retN X0 hx (t := .boolean) Bd.returns (by simp) (hb hby d4_16) hr
      · exact ⟨by rw [own_expd_0, if_neg hc3, if_pos hc12], N0, rfl⟩
    · refine own_go (b := s₁.setTop (mkF m 22 #[.val (.long y5), .second, .val (.long y1), .second, .val (.long y2), .second, .val (.long y3), .second, .val (.int x4), .val (.long y6), .second, .unset, .unset] [(.int (lcmpW y3 y2))])) (fun t k => ?_) ?_
      · show Steps p.tables e below (s₁.setTop (mkF m 12 #[.val (.long y5), .second, .val (.long y1), .second, .val (.long y2), .second, .val (.long y3), .second, .val (.int x4), .val (.long y6), .second, .unset, .unset] [(.int (lcmpW y2 y1))])) _
        refine XS.ifYes X0.here hx rfl (pc0 := 12) (pc' := 17) rfl (hb hby d4_12) rfl ((if0 _ _).trans (flt (fun q => hc12 ((lw_lt y2 y1).mp q))).2.1) (by decide) (by decide) ?_
        show Steps p.tables e below (s₁.setTop (mkF m 17 #[.val (.long y5), .second, .val (.long y1), .second, .val (.long y2), .second, .val (.long y3), .second, .val (.int x4), .val (.long y6), .second, .unset, .unset] [])) _
        refine XS.lload X0.here hx rfl (hb hby d4_17) rfl ?_
        show Steps p.tables e below (s₁.setTop (mkF m 19 #[.val (.long y5), .second, .val (.long y1), .second, .val (.long y2), .second, .val (.long y3), .second, .val (.int x4), .val (.long y6), .second, .unset, .unset] [(.long y3)])) _
        refine XS.lload X0.here hx rfl (hb hby d4_19) rfl ?_
        show Steps p.tables e below (s₁.setTop (mkF m 21 #[.val (.long y5), .second, .val (.long y1), .second, .val (.long y2), .second, .val (.long y3), .second, .val (.int x4), .val (.long y6), .second, .unset, .unset] [(.long y2), (.long y3)])) _
        refine XS.lcmp X0.here hx rfl (hb hby d4_21) rfl ?_
        show Steps p.tables e below (s₁.setTop (mkF m 22 #[.val (.long y5), .second, .val (.long y1), .second, .val (.long y2), .second, .val (.long y3), .second, .val (.int x4), .val (.long y6), .second, .unset, .unset] [(.int (lcmpW y3 y2))])) _
        exact k
      by_cases hc22 : y3 < y2
      · refine own_end X0 Bd.notSynchronized (v := some (.int (0 : Int32))) (fun h => by rw [Bd.returns] at h; cases h) (fun fs hr => ?_) e0 ?_ (by decide) (by decide)
        · show Steps p.tables e below (s₁.setTop (mkF m 22 #[.val (.long y5), .second, .val (.long y1), .second, .val (.long y2), .second, .val (.long y3), .second, .val (.int x4), .val (.long y6), .second, .unset, .unset] [(.int (lcmpW y3 y2))])) _
          refine XS.ifNo X0.here hx rfl (hb hby d4_22) rfl ((if0 _ _).trans (tlt ((lw_lt y3 y2).mpr hc22)).2.1) ?_
          show Steps p.tables e below (s₁.setTop (mkF m 25 #[.val (.long y5), .second, .val (.long y1), .second, .val (.long y2), .second, .val (.long y3), .second, .val (.int x4), .val (.long y6), .second, .unset, .unset] [])) _
          refine XS.iconst X0.here hx rfl (hb hby d4_25) ?_
          show Steps p.tables e below (s₁.setTop (mkF m 26 #[.val (.long y5), .second, .val (.long y1), .second, .val (.long y2), .second, .val (.long y3), .second, .val (.int x4), .val (.long y6), .second, .unset, .unset] [(.int (0 : Int32))])) _
          exact retN X0 hx (t := .boolean) Bd.returns (by simp) (hb hby d4_26) hr
        · exact ⟨by rw [own_expd_0, if_neg hc3, if_neg hc12, if_pos hc22], N0, rfl⟩
      · refine own_go (b := s₁.setTop (mkF m 29 #[.val (.long y5), .second, .val (.long y1), .second, .val (.long y2), .second, .val (.long y3), .second, .val (.int x4), .val (.long y6), .second, .unset, .unset] [(.int x4)])) (fun t k => ?_) ?_
        · show Steps p.tables e below (s₁.setTop (mkF m 22 #[.val (.long y5), .second, .val (.long y1), .second, .val (.long y2), .second, .val (.long y3), .second, .val (.int x4), .val (.long y6), .second, .unset, .unset] [(.int (lcmpW y3 y2))])) _
          refine XS.ifYes X0.here hx rfl (pc0 := 22) (pc' := 27) rfl (hb hby d4_22) rfl ((if0 _ _).trans (flt (fun q => hc22 ((lw_lt y3 y2).mp q))).2.1) (by decide) (by decide) ?_
          show Steps p.tables e below (s₁.setTop (mkF m 27 #[.val (.long y5), .second, .val (.long y1), .second, .val (.long y2), .second, .val (.long y3), .second, .val (.int x4), .val (.long y6), .second, .unset, .unset] [])) _
          refine XS.iload X0.here hx rfl (hb hby d4_27) rfl ?_
          show Steps p.tables e below (s₁.setTop (mkF m 29 #[.val (.long y5), .second, .val (.long y1), .second, .val (.long y2), .second, .val (.long y3), .second, .val (.int x4), .val (.long y6), .second, .unset, .unset] [(.int x4)])) _
          exact k
        by_cases hc29 : x4 < (0 : Int32)
        · refine own_end X0 Bd.notSynchronized (v := some (.int (0 : Int32))) (fun h => by rw [Bd.returns] at h; cases h) (fun fs hr => ?_) e0 ?_ (by decide) (by decide)
          · show Steps p.tables e below (s₁.setTop (mkF m 29 #[.val (.long y5), .second, .val (.long y1), .second, .val (.long y2), .second, .val (.long y3), .second, .val (.int x4), .val (.long y6), .second, .unset, .unset] [(.int x4)])) _
            refine XS.ifNo X0.here hx rfl (hb hby d4_29) rfl ((if0 _ _).trans (tlt hc29).2.1) ?_
            show Steps p.tables e below (s₁.setTop (mkF m 32 #[.val (.long y5), .second, .val (.long y1), .second, .val (.long y2), .second, .val (.long y3), .second, .val (.int x4), .val (.long y6), .second, .unset, .unset] [])) _
            refine XS.iconst X0.here hx rfl (hb hby d4_32) ?_
            show Steps p.tables e below (s₁.setTop (mkF m 33 #[.val (.long y5), .second, .val (.long y1), .second, .val (.long y2), .second, .val (.long y3), .second, .val (.int x4), .val (.long y6), .second, .unset, .unset] [(.int (0 : Int32))])) _
            exact retN X0 hx (t := .boolean) Bd.returns (by simp) (hb hby d4_33) hr
          · exact ⟨by rw [own_expd_0, if_neg hc3, if_neg hc12, if_neg hc22, if_pos hc29], N0, rfl⟩
        · refine own_go (b := s₁.setTop (mkF m 38 #[.val (.long y5), .second, .val (.long y1), .second, .val (.long y2), .second, .val (.long y3), .second, .val (.int x4), .val (.long y6), .second, .unset, .unset] [(.int (2147483647 : Int32)), (.int x4)])) (fun t k => ?_) ?_
          · show Steps p.tables e below (s₁.setTop (mkF m 29 #[.val (.long y5), .second, .val (.long y1), .second, .val (.long y2), .second, .val (.long y3), .second, .val (.int x4), .val (.long y6), .second, .unset, .unset] [(.int x4)])) _
            refine XS.ifYes X0.here hx rfl (pc0 := 29) (pc' := 34) rfl (hb hby d4_29) rfl ((if0 _ _).trans (flt hc29).2.1) (by decide) (by decide) ?_
            show Steps p.tables e below (s₁.setTop (mkF m 34 #[.val (.long y5), .second, .val (.long y1), .second, .val (.long y2), .second, .val (.long y3), .second, .val (.int x4), .val (.long y6), .second, .unset, .unset] [])) _
            refine XS.iload X0.here hx rfl (hb hby d4_34) rfl ?_
            show Steps p.tables e below (s₁.setTop (mkF m 36 #[.val (.long y5), .second, .val (.long y1), .second, .val (.long y2), .second, .val (.long y3), .second, .val (.int x4), .val (.long y6), .second, .unset, .unset] [(.int x4)])) _
            refine X0.ldcI hx hown (mvT hZ (hw _ (List.mem_of_getElem? (i := 35) rfl))) rfl (hb hby d4_36) ?_
            show Steps p.tables e below (s₁.setTop (mkF m 38 #[.val (.long y5), .second, .val (.long y1), .second, .val (.long y2), .second, .val (.long y3), .second, .val (.int x4), .val (.long y6), .second, .unset, .unset] [(.int (2147483647 : Int32)), (.int x4)])) _
            exact k
          by_cases hc38 : x4 = (2147483647 : Int32)
          · refine own_end X0 Bd.notSynchronized (v := some (.int (0 : Int32))) (fun h => by rw [Bd.returns] at h; cases h) (fun fs hr => ?_) e0 ?_ (by decide) (by decide)
            · show Steps p.tables e below (s₁.setTop (mkF m 38 #[.val (.long y5), .second, .val (.long y1), .second, .val (.long y2), .second, .val (.long y3), .second, .val (.int x4), .val (.long y6), .second, .unset, .unset] [(.int (2147483647 : Int32)), (.int x4)])) _
              refine XS.icmpNo X0.here hx rfl (hb hby d4_38) rfl (teq hc38).2 ?_
              show Steps p.tables e below (s₁.setTop (mkF m 41 #[.val (.long y5), .second, .val (.long y1), .second, .val (.long y2), .second, .val (.long y3), .second, .val (.int x4), .val (.long y6), .second, .unset, .unset] [])) _
              refine XS.iconst X0.here hx rfl (hb hby d4_41) ?_
              show Steps p.tables e below (s₁.setTop (mkF m 42 #[.val (.long y5), .second, .val (.long y1), .second, .val (.long y2), .second, .val (.long y3), .second, .val (.int x4), .val (.long y6), .second, .unset, .unset] [(.int (0 : Int32))])) _
              exact retN X0 hx (t := .boolean) Bd.returns (by simp) (hb hby d4_42) hr
            · exact ⟨by rw [own_expd_0, if_neg hc3, if_neg hc12, if_neg hc22, if_neg hc29, if_pos hc38], N0, rfl⟩
          · refine own_go (b := s₁.setTop (mkF m 47 #[.val (.long y5), .second, .val (.long y1), .second, .val (.long y2), .second, .val (.long y3), .second, .val (.int x4), .val (.long y6), .second, .unset, .unset] [(.int (lcmpW y6 (0 : Int64)))])) (fun t k => ?_) ?_
            · show Steps p.tables e below (s₁.setTop (mkF m 38 #[.val (.long y5), .second, .val (.long y1), .second, .val (.long y2), .second, .val (.long y3), .second, .val (.int x4), .val (.long y6), .second, .unset, .unset] [(.int (2147483647 : Int32)), (.int x4)])) _
              refine XS.icmpYes X0.here hx rfl (pc0 := 38) (pc' := 43) rfl (hb hby d4_38) rfl (feq hc38).2 (by decide) (by decide) ?_
              show Steps p.tables e below (s₁.setTop (mkF m 43 #[.val (.long y5), .second, .val (.long y1), .second, .val (.long y2), .second, .val (.long y3), .second, .val (.int x4), .val (.long y6), .second, .unset, .unset] [])) _
              refine XS.lload X0.here hx rfl (hb hby d4_43) rfl ?_
              show Steps p.tables e below (s₁.setTop (mkF m 45 #[.val (.long y5), .second, .val (.long y1), .second, .val (.long y2), .second, .val (.long y3), .second, .val (.int x4), .val (.long y6), .second, .unset, .unset] [(.long y6)])) _
              refine XS.lconst X0.here hx rfl (hb hby d4_45) ?_
              show Steps p.tables e below (s₁.setTop (mkF m 46 #[.val (.long y5), .second, .val (.long y1), .second, .val (.long y2), .second, .val (.long y3), .second, .val (.int x4), .val (.long y6), .second, .unset, .unset] [(.long (0 : Int64)), (.long y6)])) _
              refine XS.lcmp X0.here hx rfl (hb hby d4_46) rfl ?_
              show Steps p.tables e below (s₁.setTop (mkF m 47 #[.val (.long y5), .second, .val (.long y1), .second, .val (.long y2), .second, .val (.long y3), .second, .val (.int x4), .val (.long y6), .second, .unset, .unset] [(.int (lcmpW y6 (0 : Int64)))])) _
              exact k
            by_cases hc47 : y6 < (0 : Int64)
            · refine own_end X0 Bd.notSynchronized (v := some (.int (0 : Int32))) (fun h => by rw [Bd.returns] at h; cases h) (fun fs hr => ?_) e0 ?_ (by decide) (by decide)
              · show Steps p.tables e below (s₁.setTop (mkF m 47 #[.val (.long y5), .second, .val (.long y1), .second, .val (.long y2), .second, .val (.long y3), .second, .val (.int x4), .val (.long y6), .second, .unset, .unset] [(.int (lcmpW y6 (0 : Int64)))])) _
                refine XS.ifNo X0.here hx rfl (hb hby d4_47) rfl ((if0 _ _).trans (tlt ((lw_lt y6 (0 : Int64)).mpr hc47)).2.1) ?_
                show Steps p.tables e below (s₁.setTop (mkF m 50 #[.val (.long y5), .second, .val (.long y1), .second, .val (.long y2), .second, .val (.long y3), .second, .val (.int x4), .val (.long y6), .second, .unset, .unset] [])) _
                refine XS.iconst X0.here hx rfl (hb hby d4_50) ?_
                show Steps p.tables e below (s₁.setTop (mkF m 51 #[.val (.long y5), .second, .val (.long y1), .second, .val (.long y2), .second, .val (.long y3), .second, .val (.int x4), .val (.long y6), .second, .unset, .unset] [(.int (0 : Int32))])) _
                exact retN X0 hx (t := .boolean) Bd.returns (by simp) (hb hby d4_51) hr
              · exact ⟨by rw [own_expd_0, if_neg hc3, if_neg hc12, if_neg hc22, if_neg hc29, if_neg hc38, if_pos hc47], N0, rfl⟩
            · refine own_go (b := s₁.setTop (mkF m 73 #[.val (.long y5), .second, .val (.long y1), .second, .val (.long y2), .second, .val (.long y3), .second, .val (.int x4), .val (.long y6), .second, .val (.long (((8 : Int64) * (x4.toInt64)) + (8 : Int64))), .second] [(.int (lcmpW y3 (y6 - (((8 : Int64) * (x4.toInt64)) + (8 : Int64)))))])) (fun t k => ?_) ?_
              · show Steps p.tables e below (s₁.setTop (mkF m 47 #[.val (.long y5), .second, .val (.long y1), .second, .val (.long y2), .second, .val (.long y3), .second, .val (.int x4), .val (.long y6), .second, .unset, .unset] [(.int (lcmpW y6 (0 : Int64)))])) _
                refine XS.ifYes X0.here hx rfl (pc0 := 47) (pc' := 52) rfl (hb hby d4_47) rfl ((if0 _ _).trans (flt (fun q => hc47 ((lw_lt y6 (0 : Int64)).mp q))).2.1) (by decide) (by decide) ?_
                show Steps p.tables e below (s₁.setTop (mkF m 52 #[.val (.long y5), .second, .val (.long y1), .second, .val (.long y2), .second, .val (.long y3), .second, .val (.int x4), .val (.long y6), .second, .unset, .unset] [])) _
                refine X0.ldc2J hx hown (mvT hZ (hw _ (List.mem_of_getElem? (i := 37) rfl))) rfl (hb hby d4_52) ?_
                show Steps p.tables e below (s₁.setTop (mkF m 55 #[.val (.long y5), .second, .val (.long y1), .second, .val (.long y2), .second, .val (.long y3), .second, .val (.int x4), .val (.long y6), .second, .unset, .unset] [(.long (8 : Int64))])) _
                refine XS.iload X0.here hx rfl (hb hby d4_55) rfl ?_
                show Steps p.tables e below (s₁.setTop (mkF m 57 #[.val (.long y5), .second, .val (.long y1), .second, .val (.long y2), .second, .val (.long y3), .second, .val (.int x4), .val (.long y6), .second, .unset, .unset] [(.int x4), (.long (8 : Int64))])) _
                refine XS.i2l X0.here hx rfl (hb hby d4_57) rfl ?_
                show Steps p.tables e below (s₁.setTop (mkF m 58 #[.val (.long y5), .second, .val (.long y1), .second, .val (.long y2), .second, .val (.long y3), .second, .val (.int x4), .val (.long y6), .second, .unset, .unset] [(.long (x4.toInt64)), (.long (8 : Int64))])) _
                refine XS.lmul X0.here hx rfl (hb hby d4_58) rfl ?_
                show Steps p.tables e below (s₁.setTop (mkF m 59 #[.val (.long y5), .second, .val (.long y1), .second, .val (.long y2), .second, .val (.long y3), .second, .val (.int x4), .val (.long y6), .second, .unset, .unset] [(.long ((8 : Int64) * (x4.toInt64)))])) _
                refine X0.ldc2J hx hown (mvT hZ (hw _ (List.mem_of_getElem? (i := 37) rfl))) rfl (hb hby d4_59) ?_
                show Steps p.tables e below (s₁.setTop (mkF m 62 #[.val (.long y5), .second, .val (.long y1), .second, .val (.long y2), .second, .val (.long y3), .second, .val (.int x4), .val (.long y6), .second, .unset, .unset] [(.long (8 : Int64)), (.long ((8 : Int64) * (x4.toInt64)))])) _
                refine XS.ladd X0.here hx rfl (hb hby d4_62) rfl ?_
                show Steps p.tables e below (s₁.setTop (mkF m 63 #[.val (.long y5), .second, .val (.long y1), .second, .val (.long y2), .second, .val (.long y3), .second, .val (.int x4), .val (.long y6), .second, .unset, .unset] [(.long (((8 : Int64) * (x4.toInt64)) + (8 : Int64)))])) _
                refine XS.lstore X0.here hx rfl (hb hby d4_63) rfl (l' := #[.val (.long y5), .second, .val (.long y1), .second, .val (.long y2), .second, .val (.long y3), .second, .val (.int x4), .val (.long y6), .second, .val (.long (((8 : Int64) * (x4.toInt64)) + (8 : Int64))), .second]) rfl ?_
                show Steps p.tables e below (s₁.setTop (mkF m 65 #[.val (.long y5), .second, .val (.long y1), .second, .val (.long y2), .second, .val (.long y3), .second, .val (.int x4), .val (.long y6), .second, .val (.long (((8 : Int64) * (x4.toInt64)) + (8 : Int64))), .second] [])) _
                refine XS.lload X0.here hx rfl (hb hby d4_65) rfl ?_
                show Steps p.tables e below (s₁.setTop (mkF m 67 #[.val (.long y5), .second, .val (.long y1), .second, .val (.long y2), .second, .val (.long y3), .second, .val (.int x4), .val (.long y6), .second, .val (.long (((8 : Int64) * (x4.toInt64)) + (8 : Int64))), .second] [(.long y3)])) _
                refine XS.lload X0.here hx rfl (hb hby d4_67) rfl ?_
                show Steps p.tables e below (s₁.setTop (mkF m 69 #[.val (.long y5), .second, .val (.long y1), .second, .val (.long y2), .second, .val (.long y3), .second, .val (.int x4), .val (.long y6), .second, .val (.long (((8 : Int64) * (x4.toInt64)) + (8 : Int64))), .second] [(.long y6), (.long y3)])) _
                refine XS.lload X0.here hx rfl (hb hby d4_69) rfl ?_
                show Steps p.tables e below (s₁.setTop (mkF m 71 #[.val (.long y5), .second, .val (.long y1), .second, .val (.long y2), .second, .val (.long y3), .second, .val (.int x4), .val (.long y6), .second, .val (.long (((8 : Int64) * (x4.toInt64)) + (8 : Int64))), .second] [(.long (((8 : Int64) * (x4.toInt64)) + (8 : Int64))), (.long y6), (.long y3)])) _
                refine XS.lsub X0.here hx rfl (hb hby d4_71) rfl ?_
                show Steps p.tables e below (s₁.setTop (mkF m 72 #[.val (.long y5), .second, .val (.long y1), .second, .val (.long y2), .second, .val (.long y3), .second, .val (.int x4), .val (.long y6), .second, .val (.long (((8 : Int64) * (x4.toInt64)) + (8 : Int64))), .second] [(.long (y6 - (((8 : Int64) * (x4.toInt64)) + (8 : Int64)))), (.long y3)])) _
                refine XS.lcmp X0.here hx rfl (hb hby d4_72) rfl ?_
                show Steps p.tables e below (s₁.setTop (mkF m 73 #[.val (.long y5), .second, .val (.long y1), .second, .val (.long y2), .second, .val (.long y3), .second, .val (.int x4), .val (.long y6), .second, .val (.long (((8 : Int64) * (x4.toInt64)) + (8 : Int64))), .second] [(.int (lcmpW y3 (y6 - (((8 : Int64) * (x4.toInt64)) + (8 : Int64)))))])) _
                exact k
              by_cases hc73 : (y6 - (((8 : Int64) * (x4.toInt64)) + (8 : Int64))) < y3
              · refine own_end X0 Bd.notSynchronized (v := some (.int (0 : Int32))) (fun h => by rw [Bd.returns] at h; cases h) (fun fs hr => ?_) e0 ?_ (by decide) (by decide)
                · show Steps p.tables e below (s₁.setTop (mkF m 73 #[.val (.long y5), .second, .val (.long y1), .second, .val (.long y2), .second, .val (.long y3), .second, .val (.int x4), .val (.long y6), .second, .val (.long (((8 : Int64) * (x4.toInt64)) + (8 : Int64))), .second] [(.int (lcmpW y3 (y6 - (((8 : Int64) * (x4.toInt64)) + (8 : Int64)))))])) _
                  refine XS.ifYes X0.here hx rfl (pc0 := 73) (pc' := 80) rfl (hb hby d4_73) rfl ((if0 _ _).trans (tlt ((lw_gt y3 (y6 - (((8 : Int64) * (x4.toInt64)) + (8 : Int64)))).mpr hc73)).2.2.1) (by decide) (by decide) ?_
                  show Steps p.tables e below (s₁.setTop (mkF m 80 #[.val (.long y5), .second, .val (.long y1), .second, .val (.long y2), .second, .val (.long y3), .second, .val (.int x4), .val (.long y6), .second, .val (.long (((8 : Int64) * (x4.toInt64)) + (8 : Int64))), .second] [])) _
                  refine XS.iconst X0.here hx rfl (hb hby d4_80) ?_
                  show Steps p.tables e below (s₁.setTop (mkF m 81 #[.val (.long y5), .second, .val (.long y1), .second, .val (.long y2), .second, .val (.long y3), .second, .val (.int x4), .val (.long y6), .second, .val (.long (((8 : Int64) * (x4.toInt64)) + (8 : Int64))), .second] [(.int (0 : Int32))])) _
                  exact retN X0 hx (t := .boolean) Bd.returns (by simp) (hb hby d4_81) hr
                · exact ⟨by rw [own_expd_0, if_neg hc3, if_neg hc12, if_neg hc22, if_neg hc29, if_neg hc38, if_neg hc47, if_pos hc73], N0, rfl⟩
              · refine own_end X0 Bd.notSynchronized (v := some (.int (1 : Int32))) (fun h => by rw [Bd.returns] at h; cases h) (fun fs hr => ?_) e0 ?_ (by decide) (by decide)
                · show Steps p.tables e below (s₁.setTop (mkF m 73 #[.val (.long y5), .second, .val (.long y1), .second, .val (.long y2), .second, .val (.long y3), .second, .val (.int x4), .val (.long y6), .second, .val (.long (((8 : Int64) * (x4.toInt64)) + (8 : Int64))), .second] [(.int (lcmpW y3 (y6 - (((8 : Int64) * (x4.toInt64)) + (8 : Int64)))))])) _
                  refine XS.ifNo X0.here hx rfl (hb hby d4_73) rfl ((if0 _ _).trans (flt (fun q => hc73 ((lw_gt y3 (y6 - (((8 : Int64) * (x4.toInt64)) + (8 : Int64)))).mp q))).2.2.1) ?_
                  show Steps p.tables e below (s₁.setTop (mkF m 76 #[.val (.long y5), .second, .val (.long y1), .second, .val (.long y2), .second, .val (.long y3), .second, .val (.int x4), .val (.long y6), .second, .val (.long (((8 : Int64) * (x4.toInt64)) + (8 : Int64))), .second] [])) _
                  refine XS.iconst X0.here hx rfl (hb hby d4_76) ?_
                  show Steps p.tables e below (s₁.setTop (mkF m 77 #[.val (.long y5), .second, .val (.long y1), .second, .val (.long y2), .second, .val (.long y3), .second, .val (.int x4), .val (.long y6), .second, .val (.long (((8 : Int64) * (x4.toInt64)) + (8 : Int64))), .second] [(.int (1 : Int32))])) _
                  refine XS.goto X0.here hx rfl (pc0 := 77) (pc' := 81) rfl (hb hby d4_77) (by decide) (by decide) ?_
                  show Steps p.tables e below (s₁.setTop (mkF m 81 #[.val (.long y5), .second, .val (.long y1), .second, .val (.long y2), .second, .val (.long y3), .second, .val (.int x4), .val (.long y6), .second, .val (.long (((8 : Int64) * (x4.toInt64)) + (8 : Int64))), .second] [(.int (1 : Int32))])) _
                  exact retN X0 hx (t := .boolean) Bd.returns (by simp) (hb hby d4_81) hr
                · exact ⟨by rw [own_expd_0, if_neg hc3, if_neg hc12, if_neg hc22, if_neg hc29, if_neg hc38, if_neg hc47, if_neg hc73], N0, rfl⟩
theorem own_fr (x : Int64) : 0 ≤ (x &&& (9223372036854775807 : Int64)).toInt := by
  rw [Jvm.Kit.i64_mask x 9223372036854775807 (k := 63) (by decide) (by decide)]; omega
theorem own_same (y1 y2 y3 : Int64) (x4 : Int32) (y5 y6 : Int64) (h : 0 ≤ y5.toInt) : own_lies_0 y1 y2 y3 x4 y5 y6 = own_expd_0 y5 y1 y2 y3 x4 y6 := by
  rw [own_lies_0, own_expd_0]
  by_cases h1 : y1 < y5
  · rw [if_pos h1, if_pos h1]
  rw [if_neg h1, if_neg h1]
  by_cases h2 : y2 < y1
  · rw [if_pos h2, if_pos h2]
  rw [if_neg h2, if_neg h2]
  by_cases h3 : y3 < y2
  · rw [if_pos h3, if_pos h3]
  rw [if_neg h3, if_neg h3]
  by_cases h4 : x4 < (0 : Int32)
  · rw [if_pos h4, if_pos h4]
  rw [if_neg h4, if_neg h4]
  rw [Int64.lt_iff_toInt_lt] at h1 h2 h3
  rw [Int32.lt_iff_toInt_lt] at h4
  have e0 : (0 : Int32).toInt = 0 := rfl
  have e1 : (1 : Int32).toInt = 1 := rfl
  have em : (2147483647 : Int32).toInt = 2147483647 := rfl
  have e8 : (8 : Int64).toInt = 8 := rfl
  have z0 : (0 : Int64).toInt = 0 := rfl
  have hx := x4.toInt_lt
  have hy3 := y3.toInt_lt
  have hy6 := y6.toInt_lt
  have hy6' := y6.le_toInt
  by_cases h5 : x4 < (2147483647 : Int32)
  · have h5' := Int32.lt_iff_toInt_lt.mp h5
    have n5 : ¬ x4 = (2147483647 : Int32) := fun q => by rw [q] at h5'; exact absurd h5' (Int.lt_irrefl _)
    rw [if_pos h5, if_neg n5]
    have a1 : (x4 + (1 : Int32)).toInt = x4.toInt + 1 := by rw [Jvm.Kit.i32_add (by rw [e1]; omega) (by rw [e1]; omega), e1]
    have a2 : ((8 : Int64) * (x4 + (1 : Int32)).toInt64).toInt = 8 * (x4.toInt + 1) := by
      rw [Jvm.Kit.i64_mul (by rw [e8, Int32.toInt_toInt64, a1]; omega) (by rw [e8, Int32.toInt_toInt64, a1]; omega), e8, Int32.toInt_toInt64, a1]
    have b1 : ((8 : Int64) * x4.toInt64).toInt = 8 * x4.toInt := by
      rw [Jvm.Kit.i64_mul (by rw [e8, Int32.toInt_toInt64]; omega) (by rw [e8, Int32.toInt_toInt64]; omega), e8, Int32.toInt_toInt64]
    have b2 : ((8 : Int64) * x4.toInt64 + (8 : Int64)).toInt = 8 * x4.toInt + 8 := by
      rw [Jvm.Kit.i64_add (by rw [b1, e8]; omega) (by rw [b1, e8]; omega), b1, e8]
    by_cases h7 : y6 < (0 : Int64)
    · have h7' := Int64.lt_iff_toInt_lt.mp h7
      rw [if_pos h7, if_pos (Int64.lt_iff_toInt_lt.mpr (by omega))]
    have h7' : ¬ y6.toInt < (0 : Int64).toInt := fun q => h7 (Int64.lt_iff_toInt_lt.mpr q)
    rw [if_neg h7]
    have b3 : (y6 - ((8 : Int64) * x4.toInt64 + (8 : Int64))).toInt = y6.toInt - (8 * x4.toInt + 8) := by
      rw [Jvm.Kit.i64_sub (by rw [b2]; omega) (by rw [b2]; omega), b2]
    by_cases h6 : y6 < y3
    · have h6' := Int64.lt_iff_toInt_lt.mp h6
      rw [if_pos h6, if_pos (Int64.lt_iff_toInt_lt.mpr (by rw [b3]; omega))]
    have h6' : ¬ y6.toInt < y3.toInt := fun q => h6 (Int64.lt_iff_toInt_lt.mpr q)
    rw [if_neg h6]
    have a3 : (y6 - y3).toInt = y6.toInt - y3.toInt := Jvm.Kit.i64_sub (by omega) (by omega)
    by_cases h8 : (y6 - y3) < ((8 : Int64) * (x4 + (1 : Int32)).toInt64)
    · have h8' := Int64.lt_iff_toInt_lt.mp h8
      rw [a2, a3] at h8'
      rw [if_pos h8, if_pos (Int64.lt_iff_toInt_lt.mpr (by rw [b3]; omega))]
    · have h8' : ¬ (y6 - y3).toInt < ((8 : Int64) * (x4 + (1 : Int32)).toInt64).toInt := fun q => h8 (Int64.lt_iff_toInt_lt.mpr q)
      rw [a2, a3] at h8'
      rw [if_neg h8, if_neg (fun q => h8' (by have := Int64.lt_iff_toInt_lt.mp q; rw [b3] at this; omega))]
  · have h5' : ¬ x4.toInt < (2147483647 : Int32).toInt := fun q => h5 (Int32.lt_iff_toInt_lt.mpr q)
    rw [if_neg h5, if_pos (Int32.toInt_inj.mp (by rw [em]; rw [em] at h5'; omega))]
theorem pd__28JJJIZ_29V : parseMethodDescriptor "(JJJIZ)V" = some ⟨[.long, .long, .long, .int, .boolean], none⟩ := by decide +kernel
theorem pd__28JJ_29Z : parseMethodDescriptor "(JJ)Z" = some ⟨[.long, .long], some .boolean⟩ := by decide +kernel
theorem pd__28JJJJIJ_29Z : parseMethodDescriptor "(JJJJIJ)Z" = some ⟨[.long, .long, .long, .long, .int, .long], some .boolean⟩ := by decide +kernel
theorem pn_0 : plainName "com/example/fieldbook/fieldbook/SectionLiesWithinPinLaw" = true := by first | (simp [plainName, overriddenIn]; done) | decide +kernel
theorem ef_0 (m : MethodId) (x0 : Int64) (x1 : Int64) (x2 : Int64) (x3 : Int64) (x4 : Int32) (x5 : Int64) : entryFrame m #[(.long x0), (.long x1), (.long x2), (.long x3), (.int x4), (.long x5)] maxLocals = mkF m 0 #[.val (.long x0), .second, .val (.long x1), .second, .val (.long x2), .second, .val (.long x3), .second, .val (.int x4), .val (.long x5), .second, .unset, .unset, .unset, .unset, .unset] [] := by first | (simp [entryFrame, mkF, argsToLocals, Value.category, maxLocals]; done) | rfl
def Q0 (p1 : Int64) (p2 : Int64) (p3 : Int64) (p4 : Int64) (p5 : Int32) (p6 : Int64) (h0 : Heap) (n0 : Nat) (v : Option Value) (h : Heap) (L : List Loc) : Prop := v = some (.int 1) ∧ Fr n0 L
set_option maxRecDepth 65536 in
set_option maxHeartbeats 40000000 in
theorem rm0 (l : Launch) (Z : State) (a0 : Array Value) (hw : ∀ d ∈ tables_1, d.before a0 Z = true) (ws : List Jvm.Cond) (p1 : Int64) (p2 : Int64) (p3 : Int64) (p4 : Int64) (p5 : Int32) (p6 : Int64) (h0 : Heap) (n0 : Nat) (Z0 : n0 ≤ h0.size)  :
    MetFree l x (head1 (Jvm.Cond.code x code maxLocals ret :: ws) room_1) (fun a U => a = #[(.long p1), (.long p2), (.long p3), (.long p4), (.int p5), (.long p6)] ∧ Z.Warmed39 U.vm ∧ U.heap = h0) (fun _ _ _ _ _ => True) (fun _ U o U' => ∃ v L, o = .returned v ∧ Q0 p1 p2 p3 p4 p5 p6 h0 n0 v U'.heap L ∧ FrameEnd U o U' L 16 128) := by
  refine MetFree.of_bodySF (plainFor_of_name pn_0) hisR ?_
  intro p e s m args below meth c s₁ Bd hml0 hP hK
  obtain ⟨rfl, hZ, hh⟩ := hP
  have hx := Bd.exec
  have hby := Bd.bytes
  have hml : c.maxLocals = 16 := hml0
  have hown : s.vm.findClass "com/example/fieldbook/fieldbook/SectionLiesWithinPinLaw" = some m.cls := findClass_of_methodNamed Bd.named
  have hnm := (name_of_methodNamed Bd.named Bd.method).1
  have X0 : Stand p l e room_1 s m #[(.long p1), (.long p2), (.long p3), (.long p4), (.int p5), (.long p6)] below meth c s₁ [] 0 0 := Stand.of_body Bd
  have e0 : s₁.heap = h0 := by rw [← hh, Bd.state]; rfl
  have N0 := Fr.nil n0
  show own_Go p e below s (Q0 p1 p2 p3 p4 p5 p6 h0 n0) 16 128 (s₁.setTop (entryFrame m #[(.long p1), (.long p2), (.long p3), (.long p4), (.int p5), (.long p6)] maxLocals))
  refine own_go (b := s₁.setTop (mkF m 0 #[.val (.long p1), .second, .val (.long p2), .second, .val (.long p3), .second, .val (.long p4), .second, .val (.int p5), .val (.long p6), .second, .unset, .unset, .unset, .unset, .unset] [])) (fun t k => castTop (ef_0 m p1 p2 p3 p4 p5 p6) k) ?_
  refine own_go (b := s₁.setTop (mkF m 7 #[.val (.long p1), .second, .val (.long p2), .second, .val (.long p3), .second, .val (.long p4), .second, .val (.int p5), .val (.long p6), .second, .val (.long (p1 &&& (9223372036854775807 : Int64))), .second, .unset, .unset, .unset] [])) (fun t k => ?_) ?_
  · show Steps p.tables e below (s₁.setTop (mkF m 0 #[.val (.long p1), .second, .val (.long p2), .second, .val (.long p3), .second, .val (.long p4), .second, .val (.int p5), .val (.long p6), .second, .unset, .unset, .unset, .unset, .unset] [])) _
    refine XS.lloadN X0.here hx rfl (hb hby at_0) rfl ?_
    show Steps p.tables e below (s₁.setTop (mkF m 1 #[.val (.long p1), .second, .val (.long p2), .second, .val (.long p3), .second, .val (.long p4), .second, .val (.int p5), .val (.long p6), .second, .unset, .unset, .unset, .unset, .unset] [(.long p1)])) _
    refine X0.ldc2J hx hown (mvT hZ (hw _ (List.mem_of_getElem? (i := 0) rfl))) rfl (hb hby at_1) ?_
    show Steps p.tables e below (s₁.setTop (mkF m 4 #[.val (.long p1), .second, .val (.long p2), .second, .val (.long p3), .second, .val (.long p4), .second, .val (.int p5), .val (.long p6), .second, .unset, .unset, .unset, .unset, .unset] [(.long (9223372036854775807 : Int64)), (.long p1)])) _
    refine XS.land X0.here hx rfl (hb hby at_4) rfl ?_
    show Steps p.tables e below (s₁.setTop (mkF m 5 #[.val (.long p1), .second, .val (.long p2), .second, .val (.long p3), .second, .val (.long p4), .second, .val (.int p5), .val (.long p6), .second, .unset, .unset, .unset, .unset, .unset] [(.long (p1 &&& (9223372036854775807 : Int64)))])) _
    refine XS.lstore X0.here hx rfl (hb hby at_5) rfl (l' := #[.val (.long p1), .second, .val (.long p2), .second, .val (.long p3), .second, .val (.long p4), .second, .val (.int p5), .val (.long p6), .second, .val (.long (p1 &&& (9223372036854775807 : Int64))), .second, .unset, .unset, .unset]) rfl ?_
    show Steps p.tables e below (s₁.setTop (mkF m 7 #[.val (.long p1), .second, .val (.long p2), .second, .val (.long p3), .second, .val (.long p4), .second, .val (.int p5), .val (.long p6), .second, .val (.long (p1 &&& (9223372036854775807 : Int64))), .second, .unset, .unset, .unset] [])) _
    exact k
  obtain ⟨fr, hfr⟩ : ∃ z : Int64, z = (p1 &&& (9223372036854775807 : Int64)) := ⟨_, rfl⟩
  rw [← hfr]
  have q1 : 0 ≤ fr.toInt := by rw [hfr]; exact own_fr _
  refine own_go (b := s₁.setTop (mkF m 10 #[.val (.long p1), .second, .val (.long p2), .second, .val (.long p3), .second, .val (.long p4), .second, .val (.int p5), .val (.long p6), .second, .val (.long fr), .second, .unset, .unset, .unset] [(.int (lcmpW p1 (0 : Int64)))])) (fun t k => ?_) ?_
  · show Steps p.tables e below (s₁.setTop (mkF m 7 #[.val (.long p1), .second, .val (.long p2), .second, .val (.long p3), .second, .val (.long p4), .second, .val (.int p5), .val (.long p6), .second, .val (.long fr), .second, .unset, .unset, .unset] [])) _
    refine XS.lloadN X0.here hx rfl (hb hby at_7) rfl ?_
    show Steps p.tables e below (s₁.setTop (mkF m 8 #[.val (.long p1), .second, .val (.long p2), .second, .val (.long p3), .second, .val (.long p4), .second, .val (.int p5), .val (.long p6), .second, .val (.long fr), .second, .unset, .unset, .unset] [(.long p1)])) _
    refine XS.lconst X0.here hx rfl (hb hby at_8) ?_
    show Steps p.tables e below (s₁.setTop (mkF m 9 #[.val (.long p1), .second, .val (.long p2), .second, .val (.long p3), .second, .val (.long p4), .second, .val (.int p5), .val (.long p6), .second, .val (.long fr), .second, .unset, .unset, .unset] [(.long (0 : Int64)), (.long p1)])) _
    refine XS.lcmp X0.here hx rfl (hb hby at_9) rfl ?_
    show Steps p.tables e below (s₁.setTop (mkF m 10 #[.val (.long p1), .second, .val (.long p2), .second, .val (.long p3), .second, .val (.long p4), .second, .val (.int p5), .val (.long p6), .second, .val (.long fr), .second, .unset, .unset, .unset] [(.int (lcmpW p1 (0 : Int64)))])) _
    exact k
  by_cases hc10 : p1 < (0 : Int64)
  · obtain ⟨T1, h1, X1, e1, E1, A1, D1, -, st1⟩ := newO X0 hx hZ hown (hw _ (List.mem_of_getElem? (i := 1) rfl)) (hw _ (List.mem_of_getElem? (i := 2) rfl)) (hw _ (List.mem_of_getElem? (i := 3) rfl)) e0 (g := (mkF m 20 #[.val (.long p1), .second, .val (.long p2), .second, .val (.long p3), .second, .val (.long p4), .second, .val (.int p5), .val (.long p6), .second, .val (.long fr), .second, .val (.int (1 : Int32)), .unset, .unset] [])) rfl (hb hby at_20) (by decide) (by decide)
    obtain ⟨a1, ga1⟩ : ∃ z, z = h0.size := ⟨_, rfl⟩
    rw [← ga1] at A1 D1 st1
    have lo1 : n0 ≤ a1 := Nat.le_trans Z0 (Nat.le_of_eq ga1.symm)
    have Z1 : n0 ≤ h1.size := Nat.le_trans Z0 E1.1
    have F2 : Fld Z h1 a1 "com/example/fieldbook/fieldbook/IndexFormat$Section" "start" "J" (.long (0 : Int64)) := D1 (Or.inr (hw _ (List.mem_of_getElem? (i := 16) rfl))) (ty := .long) (by decide)
    have F3 : Fld Z h1 a1 "com/example/fieldbook/fieldbook/IndexFormat$Section" "dictionary" "J" (.long (0 : Int64)) := D1 (Or.inr (hw _ (List.mem_of_getElem? (i := 18) rfl))) (ty := .long) (by decide)
    have F4 : Fld Z h1 a1 "com/example/fieldbook/fieldbook/IndexFormat$Section" "table" "J" (.long (0 : Int64)) := D1 (Or.inr (hw _ (List.mem_of_getElem? (i := 20) rfl))) (ty := .long) (by decide)
    have F5 : Fld Z h1 a1 "com/example/fieldbook/fieldbook/IndexFormat$Section" "terms" "I" (.int (0 : Int32)) := D1 (Or.inr (hw _ (List.mem_of_getElem? (i := 22) rfl))) (ty := .int) (by decide)
    have F6 : Fld Z h1 a1 "com/example/fieldbook/fieldbook/IndexFormat$Section" "gathered" "Z" (.int (0 : Int32)) := D1 (Or.inr (hw _ (List.mem_of_getElem? (i := 24) rfl))) (ty := .boolean) (by decide)
    obtain ⟨_, _, ⟨T7, uL7, uk7, un7⟩, -, X7, ⟨Lc7, hQ7, ul7, uy7, uz7⟩, st7⟩ := X1.specialBack hx (y := (⟨"com/example/fieldbook/fieldbook/IndexFormat$Section", "<init>", "(JJJIZ)V"⟩ : MethodName)) rfl hown (mvT hZ (hw _ (List.mem_of_getElem? (i := 4) rfl))) (mvT hZ (hw _ (List.mem_of_getElem? (i := 5) rfl))) (mvT hZ (hw _ (List.mem_of_getElem? (i := 6) rfl))) (by decide) (backOf (W := 1) (rm2 l Z a0 hw [] a1 p2 p3 p4 p5 (1 : Int32) h1 n0 Z1 F2 F3 F4 F5 F6 A1 lo1 ) hZ (hw _ (List.mem_of_getElem? (i := 6) rfl)) (hw _ (List.mem_of_getElem? (i := 3) rfl)) (by decide) (by decide)) (g := (mkF m 33 #[.val (.long p1), .second, .val (.long p2), .second, .val (.long p3), .second, .val (.long p4), .second, .val (.int p5), .val (.long p6), .second, .val (.long fr), .second, .val (.int (1 : Int32)), .unset, .unset] [(.int (1 : Int32)), (.int p5), (.long p4), (.long p3), (.long p2), (.ref a1), (.ref a1)])) rfl (by rw [hml]; rfl) (Steps.refl _) (a := a1) (argsL := [(.long p2), (.long p3), (.long p4), (.int p5), (.int (1 : Int32))]) (rest := [(.ref a1)]) (lenOf pd__28JJJIZ_29V rfl) rfl (by show 2 * 0 + _ ≤ _; exact Nat.le_of_eq rfl) (hb hby at_33) (fun _ _ => ⟨rfl, e1, (by decide : 1 + 0 ≤ _), (by decide : 5 + 0 ≤ _)⟩)
    dsimp only [Pt.U, Pt.locs, Pt.cells, Pt.slots] at X7 ul7 uy7 uz7 st7 hQ7
    subst ul7 uy7 uz7
    obtain ⟨rfl, Nq7, K7, Ea7, Fa7_start, Fa7_dictionary, Fa7_table, Fa7_terms, Fa7_gathered⟩ := hQ7
    have Z7 : n0 ≤ T7.heap.size := Nat.le_trans Z1 K7.1
    have N7 := Fr.app N0 Nq7
    obtain ⟨cq8, kq8, qa8, qb8, qc8⟩ := isOf hZ rfl Ea7
    obtain ⟨_, _, ⟨T8, uL8, uk8, un8⟩, -, X8, ⟨Lc8, hQ8, ul8, uy8, uz8⟩, st8⟩ := X7.virtualBack hx (y := (⟨"com/example/fieldbook/fieldbook/IndexFormat$Section", "liesWithin", "(JJ)Z"⟩ : MethodName)) (z := (⟨"com/example/fieldbook/fieldbook/IndexFormat$Section", "liesWithin", "(JJ)Z"⟩ : MethodName)) hown (mvT hZ (hw _ (List.mem_of_getElem? (i := 25) rfl))) (mvT hZ (hw _ (List.mem_of_getElem? (i := 26) rfl))) (notFace_of_selects (args := #[]) (mvT hZ (hw _ (List.mem_of_getElem? (i := 28) rfl)))) (mvT hZ (hw _ (List.mem_of_getElem? (i := 28) rfl))) (mvT hZ (hw _ (List.mem_of_getElem? (i := 27) rfl))) (by decide) (backOf (W := 0) (rm3 l Z a0 hw [] a1 p2 p3 p4 p5 fr p6 T7.heap n0 Z7 Fa7_start Fa7_dictionary Fa7_table Fa7_terms) hZ (hw _ (List.mem_of_getElem? (i := 29) rfl)) (hw _ (List.mem_of_getElem? (i := 3) rfl)) (by decide) (by decide)) qa8 qc8 (g := (mkF m 44 #[.val (.long p1), .second, .val (.long p2), .second, .val (.long p3), .second, .val (.long p4), .second, .val (.int p5), .val (.long p6), .second, .val (.long fr), .second, .val (.int (1 : Int32)), .val (.ref a1), .unset] [(.long p6), (.long fr), (.ref a1)])) rfl (by rw [hml]; rfl) (Steps.refl _) (argsL := [(.long fr), (.long p6)]) (rest := []) (lenOf pd__28JJ_29Z rfl) rfl (by show 2 * 0 + _ ≤ _; exact Nat.le_of_eq rfl) (hb hby at_44) (fun _ _ => ⟨rfl, rfl, (by decide : 1 + 0 ≤ _), (by decide : 5 + 0 ≤ _)⟩)
    dsimp only [Pt.U, Pt.locs, Pt.cells, Pt.slots] at X8 ul8 uy8 uz8 st8 hQ8
    subst ul8 uy8 uz8
    obtain ⟨rfl, Nq8, e8⟩ := hQ8
    have N8 := Fr.app N7 Nq8
    obtain ⟨_, _, ⟨T9, uL9, uk9, un9⟩, -, X9, ⟨Lc9, hQ9, ul9, uy9, uz9⟩, st9⟩ := Jvm.LawKit.callS X8 hx (y := (⟨"com/example/fieldbook/fieldbook/SectionLiesWithinPinLaw", "expected", "(JJJJIJ)Z"⟩ : MethodName)) hown (mvT hZ (hw _ (List.mem_of_getElem? (i := 30) rfl))) (mvT hZ (hw _ (List.mem_of_getElem? (i := 31) rfl))) (mvT hZ (hw _ (List.mem_of_getElem? (i := 32) rfl))) (mvT hZ (hw _ (List.mem_of_getElem? (i := 33) rfl))) (by decide) (backOf (W := 1) (rm4 l Z a0 hw [] fr p2 p3 p4 p5 p6 T7.heap n0 Z7 ) hZ (hw _ (List.mem_of_getElem? (i := 33) rfl)) (hw _ (List.mem_of_getElem? (i := 32) rfl)) (by decide) (by decide)) (g := (mkF m 62 #[.val (.long p1), .second, .val (.long p2), .second, .val (.long p3), .second, .val (.long p4), .second, .val (.int p5), .val (.long p6), .second, .val (.long fr), .second, .val (.int (1 : Int32)), .val (.ref a1), .val (.int (own_lies_0 p2 p3 p4 p5 fr p6))] [(.long p6), (.int p5), (.long p4), (.long p3), (.long p2), (.long fr), (.int (own_lies_0 p2 p3 p4 p5 fr p6))])) rfl (by rw [hml]; rfl) (argsL := [(.long fr), (.long p2), (.long p3), (.long p4), (.int p5), (.long p6)]) (rest := [(.int (own_lies_0 p2 p3 p4 p5 fr p6))]) (lenOf pd__28JJJJIJ_29Z rfl) rfl (by show 2 * 0 + _ ≤ _; exact Nat.le_of_eq rfl) (hb hby at_62) (fun _ _ => ⟨rfl, e8, (by decide : 1 + 0 ≤ _), (by decide : 5 + 0 ≤ _)⟩)
    dsimp only [Pt.U, Pt.locs, Pt.cells, Pt.slots] at X9 ul9 uy9 uz9 st9 hQ9
    subst ul9 uy9 uz9
    obtain ⟨rfl, Nq9, e9⟩ := hQ9
    have N9 := Fr.app N8 Nq9
    have hc65_10 : (own_lies_0 p2 p3 p4 p5 fr p6) = (own_expd_0 fr p2 p3 p4 p5 p6) := own_same _ _ _ _ _ _ q1
    refine own_end X9 Bd.notSynchronized (v := some (.int (1 : Int32))) (fun h => by rw [Bd.returns] at h; cases h) (fun fs hr => ?_) e9 ?_ (by decide) (by decide)
    · show Steps p.tables e below (s₁.setTop (mkF m 10 #[.val (.long p1), .second, .val (.long p2), .second, .val (.long p3), .second, .val (.long p4), .second, .val (.int p5), .val (.long p6), .second, .val (.long fr), .second, .unset, .unset, .unset] [(.int (lcmpW p1 (0 : Int64)))])) _
      refine XS.ifNo X0.here hx rfl (hb hby at_10) rfl ((if0 _ _).trans (tlt ((lw_lt p1 (0 : Int64)).mpr hc10)).2.1) ?_
      show Steps p.tables e below (s₁.setTop (mkF m 13 #[.val (.long p1), .second, .val (.long p2), .second, .val (.long p3), .second, .val (.long p4), .second, .val (.int p5), .val (.long p6), .second, .val (.long fr), .second, .unset, .unset, .unset] [])) _
      refine XS.iconst X0.here hx rfl (hb hby at_13) ?_
      show Steps p.tables e below (s₁.setTop (mkF m 14 #[.val (.long p1), .second, .val (.long p2), .second, .val (.long p3), .second, .val (.long p4), .second, .val (.int p5), .val (.long p6), .second, .val (.long fr), .second, .unset, .unset, .unset] [(.int (1 : Int32))])) _
      refine XS.goto X0.here hx rfl (pc0 := 14) (pc' := 18) rfl (hb hby at_14) (by decide) (by decide) ?_
      show Steps p.tables e below (s₁.setTop (mkF m 18 #[.val (.long p1), .second, .val (.long p2), .second, .val (.long p3), .second, .val (.long p4), .second, .val (.int p5), .val (.long p6), .second, .val (.long fr), .second, .unset, .unset, .unset] [(.int (1 : Int32))])) _
      refine XS.istore X0.here hx rfl (hb hby at_18) rfl (l' := #[.val (.long p1), .second, .val (.long p2), .second, .val (.long p3), .second, .val (.long p4), .second, .val (.int p5), .val (.long p6), .second, .val (.long fr), .second, .val (.int (1 : Int32)), .unset, .unset]) rfl ?_
      show Steps p.tables e below (s₁.setTop (mkF m 20 #[.val (.long p1), .second, .val (.long p2), .second, .val (.long p3), .second, .val (.long p4), .second, .val (.int p5), .val (.long p6), .second, .val (.long fr), .second, .val (.int (1 : Int32)), .unset, .unset] [])) _
      refine st1 _ ?_
      show Steps p.tables e below (T1.setTop (mkF m 23 #[.val (.long p1), .second, .val (.long p2), .second, .val (.long p3), .second, .val (.long p4), .second, .val (.int p5), .val (.long p6), .second, .val (.long fr), .second, .val (.int (1 : Int32)), .unset, .unset] [(.ref a1)])) _
      refine XS.dup X1.here hx rfl (hb hby at_23) rfl rfl ?_
      show Steps p.tables e below (T1.setTop (mkF m 24 #[.val (.long p1), .second, .val (.long p2), .second, .val (.long p3), .second, .val (.long p4), .second, .val (.int p5), .val (.long p6), .second, .val (.long fr), .second, .val (.int (1 : Int32)), .unset, .unset] [(.ref a1), (.ref a1)])) _
      refine XS.lloadN X1.here hx rfl (hb hby at_24) rfl ?_
      show Steps p.tables e below (T1.setTop (mkF m 25 #[.val (.long p1), .second, .val (.long p2), .second, .val (.long p3), .second, .val (.long p4), .second, .val (.int p5), .val (.long p6), .second, .val (.long fr), .second, .val (.int (1 : Int32)), .unset, .unset] [(.long p2), (.ref a1), (.ref a1)])) _
      refine XS.lload X1.here hx rfl (hb hby at_25) rfl ?_
      show Steps p.tables e below (T1.setTop (mkF m 27 #[.val (.long p1), .second, .val (.long p2), .second, .val (.long p3), .second, .val (.long p4), .second, .val (.int p5), .val (.long p6), .second, .val (.long fr), .second, .val (.int (1 : Int32)), .unset, .unset] [(.long p3), (.long p2), (.ref a1), (.ref a1)])) _
      refine XS.lload X1.here hx rfl (hb hby at_27) rfl ?_
      show Steps p.tables e below (T1.setTop (mkF m 29 #[.val (.long p1), .second, .val (.long p2), .second, .val (.long p3), .second, .val (.long p4), .second, .val (.int p5), .val (.long p6), .second, .val (.long fr), .second, .val (.int (1 : Int32)), .unset, .unset] [(.long p4), (.long p3), (.long p2), (.ref a1), (.ref a1)])) _
      refine XS.iload X1.here hx rfl (hb hby at_29) rfl ?_
      show Steps p.tables e below (T1.setTop (mkF m 31 #[.val (.long p1), .second, .val (.long p2), .second, .val (.long p3), .second, .val (.long p4), .second, .val (.int p5), .val (.long p6), .second, .val (.long fr), .second, .val (.int (1 : Int32)), .unset, .unset] [(.int p5), (.long p4), (.long p3), (.long p2), (.ref a1), (.ref a1)])) _
      refine XS.iload X1.here hx rfl (hb hby at_31) rfl ?_
      show Steps p.tables e below (T1.setTop (mkF m 33 #[.val (.long p1), .second, .val (.long p2), .second, .val (.long p3), .second, .val (.long p4), .second, .val (.int p5), .val (.long p6), .second, .val (.long fr), .second, .val (.int (1 : Int32)), .unset, .unset] [(.int (1 : Int32)), (.int p5), (.long p4), (.long p3), (.long p2), (.ref a1), (.ref a1)])) _
      refine st7.trans ?_
      show Steps p.tables e below (T7.setTop (mkF m 36 #[.val (.long p1), .second, .val (.long p2), .second, .val (.long p3), .second, .val (.long p4), .second, .val (.int p5), .val (.long p6), .second, .val (.long fr), .second, .val (.int (1 : Int32)), .unset, .unset] [(.ref a1)])) _
      refine XS.astore X7.here hx rfl (hb hby at_36) rfl rfl (l' := #[.val (.long p1), .second, .val (.long p2), .second, .val (.long p3), .second, .val (.long p4), .second, .val (.int p5), .val (.long p6), .second, .val (.long fr), .second, .val (.int (1 : Int32)), .val (.ref a1), .unset]) rfl ?_
      show Steps p.tables e below (T7.setTop (mkF m 38 #[.val (.long p1), .second, .val (.long p2), .second, .val (.long p3), .second, .val (.long p4), .second, .val (.int p5), .val (.long p6), .second, .val (.long fr), .second, .val (.int (1 : Int32)), .val (.ref a1), .unset] [])) _
      refine XS.aload X7.here hx rfl (hb hby at_38) rfl rfl ?_
      show Steps p.tables e below (T7.setTop (mkF m 40 #[.val (.long p1), .second, .val (.long p2), .second, .val (.long p3), .second, .val (.long p4), .second, .val (.int p5), .val (.long p6), .second, .val (.long fr), .second, .val (.int (1 : Int32)), .val (.ref a1), .unset] [(.ref a1)])) _
      refine XS.lload X7.here hx rfl (hb hby at_40) rfl ?_
      show Steps p.tables e below (T7.setTop (mkF m 42 #[.val (.long p1), .second, .val (.long p2), .second, .val (.long p3), .second, .val (.long p4), .second, .val (.int p5), .val (.long p6), .second, .val (.long fr), .second, .val (.int (1 : Int32)), .val (.ref a1), .unset] [(.long fr), (.ref a1)])) _
      refine XS.lload X7.here hx rfl (hb hby at_42) rfl ?_
      show Steps p.tables e below (T7.setTop (mkF m 44 #[.val (.long p1), .second, .val (.long p2), .second, .val (.long p3), .second, .val (.long p4), .second, .val (.int p5), .val (.long p6), .second, .val (.long fr), .second, .val (.int (1 : Int32)), .val (.ref a1), .unset] [(.long p6), (.long fr), (.ref a1)])) _
      refine st8.trans ?_
      show Steps p.tables e below (T8.setTop (mkF m 47 #[.val (.long p1), .second, .val (.long p2), .second, .val (.long p3), .second, .val (.long p4), .second, .val (.int p5), .val (.long p6), .second, .val (.long fr), .second, .val (.int (1 : Int32)), .val (.ref a1), .unset] [(.int (own_lies_0 p2 p3 p4 p5 fr p6))])) _
      refine XS.istore X8.here hx rfl (hb hby at_47) rfl (l' := #[.val (.long p1), .second, .val (.long p2), .second, .val (.long p3), .second, .val (.long p4), .second, .val (.int p5), .val (.long p6), .second, .val (.long fr), .second, .val (.int (1 : Int32)), .val (.ref a1), .val (.int (own_lies_0 p2 p3 p4 p5 fr p6))]) rfl ?_
      show Steps p.tables e below (T8.setTop (mkF m 49 #[.val (.long p1), .second, .val (.long p2), .second, .val (.long p3), .second, .val (.long p4), .second, .val (.int p5), .val (.long p6), .second, .val (.long fr), .second, .val (.int (1 : Int32)), .val (.ref a1), .val (.int (own_lies_0 p2 p3 p4 p5 fr p6))] [])) _
      refine XS.iload X8.here hx rfl (hb hby at_49) rfl ?_
      show Steps p.tables e below (T8.setTop (mkF m 51 #[.val (.long p1), .second, .val (.long p2), .second, .val (.long p3), .second, .val (.long p4), .second, .val (.int p5), .val (.long p6), .second, .val (.long fr), .second, .val (.int (1 : Int32)), .val (.ref a1), .val (.int (own_lies_0 p2 p3 p4 p5 fr p6))] [(.int (own_lies_0 p2 p3 p4 p5 fr p6))])) _
      refine XS.lload X8.here hx rfl (hb hby at_51) rfl ?_
      show Steps p.tables e below (T8.setTop (mkF m 53 #[.val (.long p1), .second, .val (.long p2), .second, .val (.long p3), .second, .val (.long p4), .second, .val (.int p5), .val (.long p6), .second, .val (.long fr), .second, .val (.int (1 : Int32)), .val (.ref a1), .val (.int (own_lies_0 p2 p3 p4 p5 fr p6))] [(.long fr), (.int (own_lies_0 p2 p3 p4 p5 fr p6))])) _
      refine XS.lloadN X8.here hx rfl (hb hby at_53) rfl ?_
      show Steps p.tables e below (T8.setTop (mkF m 54 #[.val (.long p1), .second, .val (.long p2), .second, .val (.long p3), .second, .val (.long p4), .second, .val (.int p5), .val (.long p6), .second, .val (.long fr), .second, .val (.int (1 : Int32)), .val (.ref a1), .val (.int (own_lies_0 p2 p3 p4 p5 fr p6))] [(.long p2), (.long fr), (.int (own_lies_0 p2 p3 p4 p5 fr p6))])) _
      refine XS.lload X8.here hx rfl (hb hby at_54) rfl ?_
      show Steps p.tables e below (T8.setTop (mkF m 56 #[.val (.long p1), .second, .val (.long p2), .second, .val (.long p3), .second, .val (.long p4), .second, .val (.int p5), .val (.long p6), .second, .val (.long fr), .second, .val (.int (1 : Int32)), .val (.ref a1), .val (.int (own_lies_0 p2 p3 p4 p5 fr p6))] [(.long p3), (.long p2), (.long fr), (.int (own_lies_0 p2 p3 p4 p5 fr p6))])) _
      refine XS.lload X8.here hx rfl (hb hby at_56) rfl ?_
      show Steps p.tables e below (T8.setTop (mkF m 58 #[.val (.long p1), .second, .val (.long p2), .second, .val (.long p3), .second, .val (.long p4), .second, .val (.int p5), .val (.long p6), .second, .val (.long fr), .second, .val (.int (1 : Int32)), .val (.ref a1), .val (.int (own_lies_0 p2 p3 p4 p5 fr p6))] [(.long p4), (.long p3), (.long p2), (.long fr), (.int (own_lies_0 p2 p3 p4 p5 fr p6))])) _
      refine XS.iload X8.here hx rfl (hb hby at_58) rfl ?_
      show Steps p.tables e below (T8.setTop (mkF m 60 #[.val (.long p1), .second, .val (.long p2), .second, .val (.long p3), .second, .val (.long p4), .second, .val (.int p5), .val (.long p6), .second, .val (.long fr), .second, .val (.int (1 : Int32)), .val (.ref a1), .val (.int (own_lies_0 p2 p3 p4 p5 fr p6))] [(.int p5), (.long p4), (.long p3), (.long p2), (.long fr), (.int (own_lies_0 p2 p3 p4 p5 fr p6))])) _
      refine XS.lload X8.here hx rfl (hb hby at_60) rfl ?_
      show Steps p.tables e below (T8.setTop (mkF m 62 #[.val (.long p1), .second, .val (.long p2), .second, .val (.long p3), .second, .val (.long p4), .second, .val (.int p5), .val (.long p6), .second, .val (.long fr), .second, .val (.int (1 : Int32)), .val (.ref a1), .val (.int (own_lies_0 p2 p3 p4 p5 fr p6))] [(.long p6), (.int p5), (.long p4), (.long p3), (.long p2), (.long fr), (.int (own_lies_0 p2 p3 p4 p5 fr p6))])) _
      refine st9 _ ?_
      show Steps p.tables e below (T9.setTop (mkF m 65 #[.val (.long p1), .second, .val (.long p2), .second, .val (.long p3), .second, .val (.long p4), .second, .val (.int p5), .val (.long p6), .second, .val (.long fr), .second, .val (.int (1 : Int32)), .val (.ref a1), .val (.int (own_lies_0 p2 p3 p4 p5 fr p6))] [(.int (own_expd_0 fr p2 p3 p4 p5 p6)), (.int (own_lies_0 p2 p3 p4 p5 fr p6))])) _
      refine XS.icmpNo X9.here hx rfl (hb hby at_65) rfl (teq hc65_10).2 ?_
      show Steps p.tables e below (T9.setTop (mkF m 68 #[.val (.long p1), .second, .val (.long p2), .second, .val (.long p3), .second, .val (.long p4), .second, .val (.int p5), .val (.long p6), .second, .val (.long fr), .second, .val (.int (1 : Int32)), .val (.ref a1), .val (.int (own_lies_0 p2 p3 p4 p5 fr p6))] [])) _
      refine XS.iconst X9.here hx rfl (hb hby at_68) ?_
      show Steps p.tables e below (T9.setTop (mkF m 69 #[.val (.long p1), .second, .val (.long p2), .second, .val (.long p3), .second, .val (.long p4), .second, .val (.int p5), .val (.long p6), .second, .val (.long fr), .second, .val (.int (1 : Int32)), .val (.ref a1), .val (.int (own_lies_0 p2 p3 p4 p5 fr p6))] [(.int (1 : Int32))])) _
      refine XS.goto X9.here hx rfl (pc0 := 69) (pc' := 73) rfl (hb hby at_69) (by decide) (by decide) ?_
      show Steps p.tables e below (T9.setTop (mkF m 73 #[.val (.long p1), .second, .val (.long p2), .second, .val (.long p3), .second, .val (.long p4), .second, .val (.int p5), .val (.long p6), .second, .val (.long fr), .second, .val (.int (1 : Int32)), .val (.ref a1), .val (.int (own_lies_0 p2 p3 p4 p5 fr p6))] [(.int (1 : Int32))])) _
      exact retN X9 hx (t := .boolean) Bd.returns (by simp) (hb hby at_73) hr
    · exact ⟨rfl, N9⟩
  · obtain ⟨T11, h11, X11, e11, E11, A11, D11, -, st11⟩ := newO X0 hx hZ hown (hw _ (List.mem_of_getElem? (i := 1) rfl)) (hw _ (List.mem_of_getElem? (i := 2) rfl)) (hw _ (List.mem_of_getElem? (i := 3) rfl)) e0 (g := (mkF m 20 #[.val (.long p1), .second, .val (.long p2), .second, .val (.long p3), .second, .val (.long p4), .second, .val (.int p5), .val (.long p6), .second, .val (.long fr), .second, .val (.int (0 : Int32)), .unset, .unset] [])) rfl (hb hby at_20) (by decide) (by decide)
    obtain ⟨a11, ga11⟩ : ∃ z, z = h0.size := ⟨_, rfl⟩
    rw [← ga11] at A11 D11 st11
    have lo11 : n0 ≤ a11 := Nat.le_trans Z0 (Nat.le_of_eq ga11.symm)
    have Z11 : n0 ≤ h11.size := Nat.le_trans Z0 E11.1
    have F12 : Fld Z h11 a11 "com/example/fieldbook/fieldbook/IndexFormat$Section" "start" "J" (.long (0 : Int64)) := D11 (Or.inr (hw _ (List.mem_of_getElem? (i := 16) rfl))) (ty := .long) (by decide)
    have F13 : Fld Z h11 a11 "com/example/fieldbook/fieldbook/IndexFormat$Section" "dictionary" "J" (.long (0 : Int64)) := D11 (Or.inr (hw _ (List.mem_of_getElem? (i := 18) rfl))) (ty := .long) (by decide)
    have F14 : Fld Z h11 a11 "com/example/fieldbook/fieldbook/IndexFormat$Section" "table" "J" (.long (0 : Int64)) := D11 (Or.inr (hw _ (List.mem_of_getElem? (i := 20) rfl))) (ty := .long) (by decide)
    have F15 : Fld Z h11 a11 "com/example/fieldbook/fieldbook/IndexFormat$Section" "terms" "I" (.int (0 : Int32)) := D11 (Or.inr (hw _ (List.mem_of_getElem? (i := 22) rfl))) (ty := .int) (by decide)
    have F16 : Fld Z h11 a11 "com/example/fieldbook/fieldbook/IndexFormat$Section" "gathered" "Z" (.int (0 : Int32)) := D11 (Or.inr (hw _ (List.mem_of_getElem? (i := 24) rfl))) (ty := .boolean) (by decide)
    obtain ⟨_, _, ⟨T17, uL17, uk17, un17⟩, -, X17, ⟨Lc17, hQ17, ul17, uy17, uz17⟩, st17⟩ := X11.specialBack hx (y := (⟨"com/example/fieldbook/fieldbook/IndexFormat$Section", "<init>", "(JJJIZ)V"⟩ : MethodName)) rfl hown (mvT hZ (hw _ (List.mem_of_getElem? (i := 4) rfl))) (mvT hZ (hw _ (List.mem_of_getElem? (i := 5) rfl))) (mvT hZ (hw _ (List.mem_of_getElem? (i := 6) rfl))) (by decide) (backOf (W := 1) (rm2 l Z a0 hw [] a11 p2 p3 p4 p5 (0 : Int32) h11 n0 Z11 F12 F13 F14 F15 F16 A11 lo11 ) hZ (hw _ (List.mem_of_getElem? (i := 6) rfl)) (hw _ (List.mem_of_getElem? (i := 3) rfl)) (by decide) (by decide)) (g := (mkF m 33 #[.val (.long p1), .second, .val (.long p2), .second, .val (.long p3), .second, .val (.long p4), .second, .val (.int p5), .val (.long p6), .second, .val (.long fr), .second, .val (.int (0 : Int32)), .unset, .unset] [(.int (0 : Int32)), (.int p5), (.long p4), (.long p3), (.long p2), (.ref a11), (.ref a11)])) rfl (by rw [hml]; rfl) (Steps.refl _) (a := a11) (argsL := [(.long p2), (.long p3), (.long p4), (.int p5), (.int (0 : Int32))]) (rest := [(.ref a11)]) (lenOf pd__28JJJIZ_29V rfl) rfl (by show 2 * 0 + _ ≤ _; exact Nat.le_of_eq rfl) (hb hby at_33) (fun _ _ => ⟨rfl, e11, (by decide : 1 + 0 ≤ _), (by decide : 5 + 0 ≤ _)⟩)
    dsimp only [Pt.U, Pt.locs, Pt.cells, Pt.slots] at X17 ul17 uy17 uz17 st17 hQ17
    subst ul17 uy17 uz17
    obtain ⟨rfl, Nq17, K17, Ea17, Fa17_start, Fa17_dictionary, Fa17_table, Fa17_terms, Fa17_gathered⟩ := hQ17
    have Z17 : n0 ≤ T17.heap.size := Nat.le_trans Z11 K17.1
    have N17 := Fr.app N0 Nq17
    obtain ⟨cq18, kq18, qa18, qb18, qc18⟩ := isOf hZ rfl Ea17
    obtain ⟨_, _, ⟨T18, uL18, uk18, un18⟩, -, X18, ⟨Lc18, hQ18, ul18, uy18, uz18⟩, st18⟩ := X17.virtualBack hx (y := (⟨"com/example/fieldbook/fieldbook/IndexFormat$Section", "liesWithin", "(JJ)Z"⟩ : MethodName)) (z := (⟨"com/example/fieldbook/fieldbook/IndexFormat$Section", "liesWithin", "(JJ)Z"⟩ : MethodName)) hown (mvT hZ (hw _ (List.mem_of_getElem? (i := 25) rfl))) (mvT hZ (hw _ (List.mem_of_getElem? (i := 26) rfl))) (notFace_of_selects (args := #[]) (mvT hZ (hw _ (List.mem_of_getElem? (i := 28) rfl)))) (mvT hZ (hw _ (List.mem_of_getElem? (i := 28) rfl))) (mvT hZ (hw _ (List.mem_of_getElem? (i := 27) rfl))) (by decide) (backOf (W := 0) (rm3 l Z a0 hw [] a11 p2 p3 p4 p5 fr p6 T17.heap n0 Z17 Fa17_start Fa17_dictionary Fa17_table Fa17_terms) hZ (hw _ (List.mem_of_getElem? (i := 29) rfl)) (hw _ (List.mem_of_getElem? (i := 3) rfl)) (by decide) (by decide)) qa18 qc18 (g := (mkF m 44 #[.val (.long p1), .second, .val (.long p2), .second, .val (.long p3), .second, .val (.long p4), .second, .val (.int p5), .val (.long p6), .second, .val (.long fr), .second, .val (.int (0 : Int32)), .val (.ref a11), .unset] [(.long p6), (.long fr), (.ref a11)])) rfl (by rw [hml]; rfl) (Steps.refl _) (argsL := [(.long fr), (.long p6)]) (rest := []) (lenOf pd__28JJ_29Z rfl) rfl (by show 2 * 0 + _ ≤ _; exact Nat.le_of_eq rfl) (hb hby at_44) (fun _ _ => ⟨rfl, rfl, (by decide : 1 + 0 ≤ _), (by decide : 5 + 0 ≤ _)⟩)
    dsimp only [Pt.U, Pt.locs, Pt.cells, Pt.slots] at X18 ul18 uy18 uz18 st18 hQ18
    subst ul18 uy18 uz18
    obtain ⟨rfl, Nq18, e18⟩ := hQ18
    have N18 := Fr.app N17 Nq18
    obtain ⟨_, _, ⟨T19, uL19, uk19, un19⟩, -, X19, ⟨Lc19, hQ19, ul19, uy19, uz19⟩, st19⟩ := Jvm.LawKit.callS X18 hx (y := (⟨"com/example/fieldbook/fieldbook/SectionLiesWithinPinLaw", "expected", "(JJJJIJ)Z"⟩ : MethodName)) hown (mvT hZ (hw _ (List.mem_of_getElem? (i := 30) rfl))) (mvT hZ (hw _ (List.mem_of_getElem? (i := 31) rfl))) (mvT hZ (hw _ (List.mem_of_getElem? (i := 32) rfl))) (mvT hZ (hw _ (List.mem_of_getElem? (i := 33) rfl))) (by decide) (backOf (W := 1) (rm4 l Z a0 hw [] fr p2 p3 p4 p5 p6 T17.heap n0 Z17 ) hZ (hw _ (List.mem_of_getElem? (i := 33) rfl)) (hw _ (List.mem_of_getElem? (i := 32) rfl)) (by decide) (by decide)) (g := (mkF m 62 #[.val (.long p1), .second, .val (.long p2), .second, .val (.long p3), .second, .val (.long p4), .second, .val (.int p5), .val (.long p6), .second, .val (.long fr), .second, .val (.int (0 : Int32)), .val (.ref a11), .val (.int (own_lies_0 p2 p3 p4 p5 fr p6))] [(.long p6), (.int p5), (.long p4), (.long p3), (.long p2), (.long fr), (.int (own_lies_0 p2 p3 p4 p5 fr p6))])) rfl (by rw [hml]; rfl) (argsL := [(.long fr), (.long p2), (.long p3), (.long p4), (.int p5), (.long p6)]) (rest := [(.int (own_lies_0 p2 p3 p4 p5 fr p6))]) (lenOf pd__28JJJJIJ_29Z rfl) rfl (by show 2 * 0 + _ ≤ _; exact Nat.le_of_eq rfl) (hb hby at_62) (fun _ _ => ⟨rfl, e18, (by decide : 1 + 0 ≤ _), (by decide : 5 + 0 ≤ _)⟩)
    dsimp only [Pt.U, Pt.locs, Pt.cells, Pt.slots] at X19 ul19 uy19 uz19 st19 hQ19
    subst ul19 uy19 uz19
    obtain ⟨rfl, Nq19, e19⟩ := hQ19
    have N19 := Fr.app N18 Nq19
    have hc65_20 : (own_lies_0 p2 p3 p4 p5 fr p6) = (own_expd_0 fr p2 p3 p4 p5 p6) := own_same _ _ _ _ _ _ q1
    refine own_end X19 Bd.notSynchronized (v := some (.int (1 : Int32))) (fun h => by rw [Bd.returns] at h; cases h) (fun fs hr => ?_) e19 ?_ (by decide) (by decide)
    · show Steps p.tables e below (s₁.setTop (mkF m 10 #[.val (.long p1), .second, .val (.long p2), .second, .val (.long p3), .second, .val (.long p4), .second, .val (.int p5), .val (.long p6), .second, .val (.long fr), .second, .unset, .unset, .unset] [(.int (lcmpW p1 (0 : Int64)))])) _
      refine XS.ifYes X0.here hx rfl (pc0 := 10) (pc' := 17) rfl (hb hby at_10) rfl ((if0 _ _).trans (flt (fun q => hc10 ((lw_lt p1 (0 : Int64)).mp q))).2.1) (by decide) (by decide) ?_
      show Steps p.tables e below (s₁.setTop (mkF m 17 #[.val (.long p1), .second, .val (.long p2), .second, .val (.long p3), .second, .val (.long p4), .second, .val (.int p5), .val (.long p6), .second, .val (.long fr), .second, .unset, .unset, .unset] [])) _
      refine XS.iconst X0.here hx rfl (hb hby at_17) ?_
      show Steps p.tables e below (s₁.setTop (mkF m 18 #[.val (.long p1), .second, .val (.long p2), .second, .val (.long p3), .second, .val (.long p4), .second, .val (.int p5), .val (.long p6), .second, .val (.long fr), .second, .unset, .unset, .unset] [(.int (0 : Int32))])) _
      refine XS.istore X0.here hx rfl (hb hby at_18) rfl (l' := #[.val (.long p1), .second, .val (.long p2), .second, .val (.long p3), .second, .val (.long p4), .second, .val (.int p5), .val (.long p6), .second, .val (.long fr), .second, .val (.int (0 : Int32)), .unset, .unset]) rfl ?_
      show Steps p.tables e below (s₁.setTop (mkF m 20 #[.val (.long p1), .second, .val (.long p2), .second, .val (.long p3), .second, .val (.long p4), .second, .val (.int p5), .val (.long p6), .second, .val (.long fr), .second, .val (.int (0 : Int32)), .unset, .unset] [])) _
      refine st11 _ ?_
      show Steps p.tables e below (T11.setTop (mkF m 23 #[.val (.long p1), .second, .val (.long p2), .second, .val (.long p3), .second, .val (.long p4), .second, .val (.int p5), .val (.long p6), .second, .val (.long fr), .second, .val (.int (0 : Int32)), .unset, .unset] [(.ref a11)])) _
      refine XS.dup X11.here hx rfl (hb hby at_23) rfl rfl ?_
      show Steps p.tables e below (T11.setTop (mkF m 24 #[.val (.long p1), .second, .val (.long p2), .second, .val (.long p3), .second, .val (.long p4), .second, .val (.int p5), .val (.long p6), .second, .val (.long fr), .second, .val (.int (0 : Int32)), .unset, .unset] [(.ref a11), (.ref a11)])) _
      refine XS.lloadN X11.here hx rfl (hb hby at_24) rfl ?_
      show Steps p.tables e below (T11.setTop (mkF m 25 #[.val (.long p1), .second, .val (.long p2), .second, .val (.long p3), .second, .val (.long p4), .second, .val (.int p5), .val (.long p6), .second, .val (.long fr), .second, .val (.int (0 : Int32)), .unset, .unset] [(.long p2), (.ref a11), (.ref a11)])) _
      refine XS.lload X11.here hx rfl (hb hby at_25) rfl ?_
      show Steps p.tables e below (T11.setTop (mkF m 27 #[.val (.long p1), .second, .val (.long p2), .second, .val (.long p3), .second, .val (.long p4), .second, .val (.int p5), .val (.long p6), .second, .val (.long fr), .second, .val (.int (0 : Int32)), .unset, .unset] [(.long p3), (.long p2), (.ref a11), (.ref a11)])) _
      refine XS.lload X11.here hx rfl (hb hby at_27) rfl ?_
      show Steps p.tables e below (T11.setTop (mkF m 29 #[.val (.long p1), .second, .val (.long p2), .second, .val (.long p3), .second, .val (.long p4), .second, .val (.int p5), .val (.long p6), .second, .val (.long fr), .second, .val (.int (0 : Int32)), .unset, .unset] [(.long p4), (.long p3), (.long p2), (.ref a11), (.ref a11)])) _
      refine XS.iload X11.here hx rfl (hb hby at_29) rfl ?_
      show Steps p.tables e below (T11.setTop (mkF m 31 #[.val (.long p1), .second, .val (.long p2), .second, .val (.long p3), .second, .val (.long p4), .second, .val (.int p5), .val (.long p6), .second, .val (.long fr), .second, .val (.int (0 : Int32)), .unset, .unset] [(.int p5), (.long p4), (.long p3), (.long p2), (.ref a11), (.ref a11)])) _
      refine XS.iload X11.here hx rfl (hb hby at_31) rfl ?_
      show Steps p.tables e below (T11.setTop (mkF m 33 #[.val (.long p1), .second, .val (.long p2), .second, .val (.long p3), .second, .val (.long p4), .second, .val (.int p5), .val (.long p6), .second, .val (.long fr), .second, .val (.int (0 : Int32)), .unset, .unset] [(.int (0 : Int32)), (.int p5), (.long p4), (.long p3), (.long p2), (.ref a11), (.ref a11)])) _
      refine st17.trans ?_
      show Steps p.tables e below (T17.setTop (mkF m 36 #[.val (.long p1), .second, .val (.long p2), .second, .val (.long p3), .second, .val (.long p4), .second, .val (.int p5), .val (.long p6), .second, .val (.long fr), .second, .val (.int (0 : Int32)), .unset, .unset] [(.ref a11)])) _
      refine XS.astore X17.here hx rfl (hb hby at_36) rfl rfl (l' := #[.val (.long p1), .second, .val (.long p2), .second, .val (.long p3), .second, .val (.long p4), .second, .val (.int p5), .val (.long p6), .second, .val (.long fr), .second, .val (.int (0 : Int32)), .val (.ref a11), .unset]) rfl ?_
      show Steps p.tables e below (T17.setTop (mkF m 38 #[.val (.long p1), .second, .val (.long p2), .second, .val (.long p3), .second, .val (.long p4), .second, .val (.int p5), .val (.long p6), .second, .val (.long fr), .second, .val (.int (0 : Int32)), .val (.ref a11), .unset] [])) _
      refine XS.aload X17.here hx rfl (hb hby at_38) rfl rfl ?_
      show Steps p.tables e below (T17.setTop (mkF m 40 #[.val (.long p1), .second, .val (.long p2), .second, .val (.long p3), .second, .val (.long p4), .second, .val (.int p5), .val (.long p6), .second, .val (.long fr), .second, .val (.int (0 : Int32)), .val (.ref a11), .unset] [(.ref a11)])) _
      refine XS.lload X17.here hx rfl (hb hby at_40) rfl ?_
      show Steps p.tables e below (T17.setTop (mkF m 42 #[.val (.long p1), .second, .val (.long p2), .second, .val (.long p3), .second, .val (.long p4), .second, .val (.int p5), .val (.long p6), .second, .val (.long fr), .second, .val (.int (0 : Int32)), .val (.ref a11), .unset] [(.long fr), (.ref a11)])) _
      refine XS.lload X17.here hx rfl (hb hby at_42) rfl ?_
      show Steps p.tables e below (T17.setTop (mkF m 44 #[.val (.long p1), .second, .val (.long p2), .second, .val (.long p3), .second, .val (.long p4), .second, .val (.int p5), .val (.long p6), .second, .val (.long fr), .second, .val (.int (0 : Int32)), .val (.ref a11), .unset] [(.long p6), (.long fr), (.ref a11)])) _
      refine st18.trans ?_
      show Steps p.tables e below (T18.setTop (mkF m 47 #[.val (.long p1), .second, .val (.long p2), .second, .val (.long p3), .second, .val (.long p4), .second, .val (.int p5), .val (.long p6), .second, .val (.long fr), .second, .val (.int (0 : Int32)), .val (.ref a11), .unset] [(.int (own_lies_0 p2 p3 p4 p5 fr p6))])) _
      refine XS.istore X18.here hx rfl (hb hby at_47) rfl (l' := #[.val (.long p1), .second, .val (.long p2), .second, .val (.long p3), .second, .val (.long p4), .second, .val (.int p5), .val (.long p6), .second, .val (.long fr), .second, .val (.int (0 : Int32)), .val (.ref a11), .val (.int (own_lies_0 p2 p3 p4 p5 fr p6))]) rfl ?_
      show Steps p.tables e below (T18.setTop (mkF m 49 #[.val (.long p1), .second, .val (.long p2), .second, .val (.long p3), .second, .val (.long p4), .second, .val (.int p5), .val (.long p6), .second, .val (.long fr), .second, .val (.int (0 : Int32)), .val (.ref a11), .val (.int (own_lies_0 p2 p3 p4 p5 fr p6))] [])) _
      refine XS.iload X18.here hx rfl (hb hby at_49) rfl ?_
      show Steps p.tables e below (T18.setTop (mkF m 51 #[.val (.long p1), .second, .val (.long p2), .second, .val (.long p3), .second, .val (.long p4), .second, .val (.int p5), .val (.long p6), .second, .val (.long fr), .second, .val (.int (0 : Int32)), .val (.ref a11), .val (.int (own_lies_0 p2 p3 p4 p5 fr p6))] [(.int (own_lies_0 p2 p3 p4 p5 fr p6))])) _
      refine XS.lload X18.here hx rfl (hb hby at_51) rfl ?_
      show Steps p.tables e below (T18.setTop (mkF m 53 #[.val (.long p1), .second, .val (.long p2), .second, .val (.long p3), .second, .val (.long p4), .second, .val (.int p5), .val (.long p6), .second, .val (.long fr), .second, .val (.int (0 : Int32)), .val (.ref a11), .val (.int (own_lies_0 p2 p3 p4 p5 fr p6))] [(.long fr), (.int (own_lies_0 p2 p3 p4 p5 fr p6))])) _
      refine XS.lloadN X18.here hx rfl (hb hby at_53) rfl ?_
      show Steps p.tables e below (T18.setTop (mkF m 54 #[.val (.long p1), .second, .val (.long p2), .second, .val (.long p3), .second, .val (.long p4), .second, .val (.int p5), .val (.long p6), .second, .val (.long fr), .second, .val (.int (0 : Int32)), .val (.ref a11), .val (.int (own_lies_0 p2 p3 p4 p5 fr p6))] [(.long p2), (.long fr), (.int (own_lies_0 p2 p3 p4 p5 fr p6))])) _
      refine XS.lload X18.here hx rfl (hb hby at_54) rfl ?_
      show Steps p.tables e below (T18.setTop (mkF m 56 #[.val (.long p1), .second, .val (.long p2), .second, .val (.long p3), .second, .val (.long p4), .second, .val (.int p5), .val (.long p6), .second, .val (.long fr), .second, .val (.int (0 : Int32)), .val (.ref a11), .val (.int (own_lies_0 p2 p3 p4 p5 fr p6))] [(.long p3), (.long p2), (.long fr), (.int (own_lies_0 p2 p3 p4 p5 fr p6))])) _
      refine XS.lload X18.here hx rfl (hb hby at_56) rfl ?_
      show Steps p.tables e below (T18.setTop (mkF m 58 #[.val (.long p1), .second, .val (.long p2), .second, .val (.long p3), .second, .val (.long p4), .second, .val (.int p5), .val (.long p6), .second, .val (.long fr), .second, .val (.int (0 : Int32)), .val (.ref a11), .val (.int (own_lies_0 p2 p3 p4 p5 fr p6))] [(.long p4), (.long p3), (.long p2), (.long fr), (.int (own_lies_0 p2 p3 p4 p5 fr p6))])) _
      refine XS.iload X18.here hx rfl (hb hby at_58) rfl ?_
      show Steps p.tables e below (T18.setTop (mkF m 60 #[.val (.long p1), .second, .val (.long p2), .second, .val (.long p3), .second, .val (.long p4), .second, .val (.int p5), .val (.long p6), .second, .val (.long fr), .second, .val (.int (0 : Int32)), .val (.ref a11), .val (.int (own_lies_0 p2 p3 p4 p5 fr p6))] [(.int p5), (.long p4), (.long p3), (.long p2), (.long fr), (.int (own_lies_0 p2 p3 p4 p5 fr p6))])) _
      refine XS.lload X18.here hx rfl (hb hby at_60) rfl ?_
      show Steps p.tables e below (T18.setTop (mkF m 62 #[.val (.long p1), .second, .val (.long p2), .second, .val (.long p3), .second, .val (.long p4), .second, .val (.int p5), .val (.long p6), .second, .val (.long fr), .second, .val (.int (0 : Int32)), .val (.ref a11), .val (.int (own_lies_0 p2 p3 p4 p5 fr p6))] [(.long p6), (.int p5), (.long p4), (.long p3), (.long p2), (.long fr), (.int (own_lies_0 p2 p3 p4 p5 fr p6))])) _
      refine st19 _ ?_
      show Steps p.tables e below (T19.setTop (mkF m 65 #[.val (.long p1), .second, .val (.long p2), .second, .val (.long p3), .second, .val (.long p4), .second, .val (.int p5), .val (.long p6), .second, .val (.long fr), .second, .val (.int (0 : Int32)), .val (.ref a11), .val (.int (own_lies_0 p2 p3 p4 p5 fr p6))] [(.int (own_expd_0 fr p2 p3 p4 p5 p6)), (.int (own_lies_0 p2 p3 p4 p5 fr p6))])) _
      refine XS.icmpNo X19.here hx rfl (hb hby at_65) rfl (teq hc65_20).2 ?_
      show Steps p.tables e below (T19.setTop (mkF m 68 #[.val (.long p1), .second, .val (.long p2), .second, .val (.long p3), .second, .val (.long p4), .second, .val (.int p5), .val (.long p6), .second, .val (.long fr), .second, .val (.int (0 : Int32)), .val (.ref a11), .val (.int (own_lies_0 p2 p3 p4 p5 fr p6))] [])) _
      refine XS.iconst X19.here hx rfl (hb hby at_68) ?_
      show Steps p.tables e below (T19.setTop (mkF m 69 #[.val (.long p1), .second, .val (.long p2), .second, .val (.long p3), .second, .val (.long p4), .second, .val (.int p5), .val (.long p6), .second, .val (.long fr), .second, .val (.int (0 : Int32)), .val (.ref a11), .val (.int (own_lies_0 p2 p3 p4 p5 fr p6))] [(.int (1 : Int32))])) _
      refine XS.goto X19.here hx rfl (pc0 := 69) (pc' := 73) rfl (hb hby at_69) (by decide) (by decide) ?_
      show Steps p.tables e below (T19.setTop (mkF m 73 #[.val (.long p1), .second, .val (.long p2), .second, .val (.long p3), .second, .val (.long p4), .second, .val (.int p5), .val (.long p6), .second, .val (.long fr), .second, .val (.int (0 : Int32)), .val (.ref a11), .val (.int (own_lies_0 p2 p3 p4 p5 fr p6))] [(.int (1 : Int32))])) _
      exact retN X19 hx (t := .boolean) Bd.returns (by simp) (hb hby at_73) hr
    · exact ⟨rfl, N19⟩
set_option maxRecDepth 65536 in
set_option maxHeartbeats 40000000 in
theorem comes_1 {Post : Tables → Env → Array Value → State → Outcome → State → Prop} (hpost : ∀ tb e args s v u, (limb_1_1.after args s (.returned v) u = true ∧ limb_1_2.after args s (.returned v) u = true ∧ True) → FrameEnd s (.returned v) u (Jvm.fieldLocs frame_1_writes args s ++ Jvm.arrayLocs frame_1_arrays args s ++ Jvm.staticLocs frame_1_statics s) 16 128 → Post tb e args s (.returned v) u) :
    ArmFor flags0 classFile x code maxLocals ret World_1 tables_1 room_1 Calls_1 rest_1 Pre_1 Post := by
  intro l hfl _ _ p e ha hc hk s m args below hf hA hF happ hP
  obtain ⟨hcalls, hrest, hpre⟩ := hP
  obtain ⟨-, -, -, hnamed, -, -, -, hat⟩ := (Spec.applies_iff hf).mp happ
  obtain ⟨hg, hn⟩ := and_e (Cond.before_iff.mp (show (Jvm.Cond.and given_1 narrow_1).before args s = true from hpre))
  obtain ⟨g0, r0⟩ := and_e hg
  obtain ⟨g1, r1⟩ := and_e r0
  obtain ⟨g2, r2⟩ := and_e r1
  obtain ⟨g3, r3⟩ := and_e r2
  obtain ⟨g4, r4⟩ := and_e r3
  obtain ⟨g5, r5⟩ := and_e r4
  obtain ⟨w0, w1, w2, w3, w4, w5, rfl⟩ : ∃ w0 w1 w2 w3 w4 w5 : Value, args = #[w0, w1, w2, w3, w4, w5] := by
    have hs : args.size = 6 := by simpa [Cond.value, given_1] using g0
    obtain ⟨L⟩ := args
    match L, hs with
    | [w0, w1, w2, w3, w4, w5], _ => exact ⟨w0, w1, w2, w3, w4, w5, rfl⟩
  have hw := fun d (hd : d ∈ tables_1) => atoms_spec (ws := Jvm.Cond.code x code maxLocals ret :: tables_1) hat d (List.mem_cons_of_mem _ hd)
  obtain ⟨i0, y0⟩ := isL_v g1
  obtain rfl : w0 = (.long i0) := Option.some.inj y0
  obtain ⟨i1, y1⟩ := isL_v g2
  obtain rfl : w1 = (.long i1) := Option.some.inj y1
  obtain ⟨i2, y2⟩ := isL_v g3
  obtain rfl : w2 = (.long i2) := Option.some.inj y2
  obtain ⟨i3, y3⟩ := isL_v g4
  obtain rfl : w3 = (.long i3) := Option.some.inj y3
  obtain ⟨i4, y4⟩ := is_v g5
  obtain rfl : w4 = (.int i4) := Option.some.inj y4
  obtain ⟨i5, y5⟩ := isL_v r5
  obtain rfl : w5 = (.long i5) := Option.some.inj y5
  obtain ⟨n, o, h1, h2, h3, _, L, rfl, ⟨rfl, N⟩, hq⟩ := rm0 l s _ hw tables_1 i0 i1 i2 i3 i4 i5 s.heap s.heap.size (Nat.le_refl _) p e ha hc hk s m _ below hf ((Spec.applies_iff_loose hf).mp happ).1 ⟨rfl, State.Warmed39.refl s, rfl⟩ trivial
  refine ⟨n, _, h1, h2, h3, hpost _ _ _ _ _ _ ⟨Cond.after_iff.mpr rfl, Cond.after_iff.mpr (eq_i res_at (Term.int_eval (1)) rfl), trivial⟩ ⟨hq.1, hq.2.1, (hq.2.2.sift fun y hy => Or.inr (N y hy)).mono (by decide) (by decide)⟩⟩
theorem main_1_1 : Claimed_1_1 := comes_1 fun _ _ _ _ _ _ h hF => ⟨h.1, hF⟩
theorem main_1_2 : Claimed_1_2 := comes_1 fun _ _ _ _ _ _ h hF => ⟨h.2.1, hF⟩
end Jvm.Pilot.@@N@@
namespace Jvm.Pilot.@@N@@
open Jvm Jvm.ClassFile Sem Op Lib Jvm.Free Jvm.Stand Jvm.Pilot.@@N@@.Jvm.D
/-! MADE BY PROGRAM (witnessworld.py) out of the Statement's table words and the real class files: 10 classes; the members and pool entries that the words name. The judged class is class 1, her method 1. -/
namespace start1
open Jvm.ClassFile
def u (s : String) : CpInfo := .utf8 (stringToUtf16 s)
/-- a pool by its gaps: so many unusable entries, then the entry; so many at the end -/
def gap : Nat → List CpInfo → List CpInfo
  | 0, r => r
  | n + 1, r => .unusable :: gap n r
def poolList (es : List (Nat × CpInfo)) (last : Nat) : List CpInfo := es.foldr (fun e r => gap e.1 (e.2 :: r)) (gap last [])
def pool (es : List (Nat × CpInfo)) (last : Nat) : Array CpInfo := ⟨poolList es last⟩
def fileOf (pool : Array CpInfo) (this : Nat) (attrs : Array Attribute := #[]) (ms : Array MethodInfo := #[]) (fl : Nat := 33) (sup : Nat := 0) (ifs : Array Nat := #[]) (fds : Array FieldInfo := #[]) : ClassFile where
  minorVersion := 0
  majorVersion := 65
  constantPool := pool
  accessFlags := fl
  thisClass := this
  superClass := sup
  interfaces := ifs
  fields := fds
  methods := ms
  attributes := attrs
def plain (name : String) (sup : Option ClassId) : Class where
  name := name
  kind := .ordinary
  loader := none
  accessFlags := 33
  super := sup
  interfaces := #[]
  cf := none
  fields := #[]
  methods := #[]
  instanceTypes := #[]
  staticTypes := #[]
  resolved := #[]
  callSites := []
  init := .initialized
  statics := none
  mirror := none

def pool0 : Array CpInfo := pool [(5, u "<init>"), (0, u "()V"), (1, .class_ 10), (1, u "java/lang/Object")] 113

def k0c0 : Code := { maxStack := 0, maxLocals := 1, code := object_method_1_code, exceptionTable := #[], attributes := #[] }
def k0m0 : Method := { name := "<init>", desc := "()V", sig := { parameters := [], returnType := none }, accessFlags := 1, code := some k0c0 }
/-- java/lang/Object -/
def k0 : Class := { plain "java/lang/Object" none with
  accessFlags := 33
  interfaces := #[]
  cf := some (fileOf pool0 8 #[] #[{ accessFlags := 1, nameIndex := 5, descriptorIndex := 6, attributes := #[] }] 33 0 #[] #[])
  fields := #[]
  methods := #[k0m0]
  instanceTypes := #[]
  staticTypes := #[]
  resolved := Array.replicate 124 none
  statics := none }

def pool1 : Array CpInfo := pool [(2, .class_ 4), (1, u "java/lang/Object"), (0, u "<init>"), (0, u "()V"), (2, .long 9223372036854775807), (1, .class_ 12), (0, u "com/example/fieldbook/fieldbook/IndexFormat$Section"), (0, .methodref 11 14), (0, .nameAndType 5 15), (0, u "(JJJIZ)V"), (0, .methodref 11 17), (0, .nameAndType 18 19), (0, u "liesWithin"), (0, u "(JJ)Z"), (0, .methodref 21 22), (0, .class_ 23), (0, .nameAndType 24 25), (0, u "com/example/fieldbook/fieldbook/SectionLiesWithinPinLaw"), (0, u "expected"), (0, u "(JJJJIJ)Z"), (2, .integer 2147483647), (0, .long 8), (3, u "law")] 7

def k1m0 : Method := { name := "<init>", desc := "()V", sig := { parameters := [], returnType := none }, accessFlags := 2, code := none }
def k1c1 : Code := { maxStack := 12, maxLocals := 16, code := code, exceptionTable := #[], attributes := #[] }
def k1m1 : Method := { name := "law", desc := "(JJJJIJ)Z", sig := { parameters := [.long, .long, .long, .long, .int, .long], returnType := some .boolean }, accessFlags := 9, code := some k1c1 }
def k1c2 : Code := { maxStack := 6, maxLocals := 13, code := method_3_code, exceptionTable := #[], attributes := #[] }
def k1m2 : Method := { name := "expected", desc := "(JJJJIJ)Z", sig := { parameters := [.long, .long, .long, .long, .int, .long], returnType := some .boolean }, accessFlags := 10, code := some k1c2 }
/-- com/example/fieldbook/fieldbook/SectionLiesWithinPinLaw -/
def k1 : Class := { plain "com/example/fieldbook/fieldbook/SectionLiesWithinPinLaw" (some 0) with
  accessFlags := 49
  interfaces := #[]
  cf := some (fileOf pool1 21 #[] #[{ accessFlags := 2, nameIndex := 5, descriptorIndex := 6, attributes := #[] }, { accessFlags := 9, nameIndex := 33, descriptorIndex := 25, attributes := #[] }, { accessFlags := 10, nameIndex := 24, descriptorIndex := 25, attributes := #[] }] 49 2 #[] #[])
  fields := #[]
  methods := #[k1m0, k1m1, k1m2]
  instanceTypes := #[]
  staticTypes := #[]
  resolved := Array.replicate 41 none
  statics := none }

def pool2 : Array CpInfo := pool [(1, .methodref 2 3), (0, .class_ 4), (0, .nameAndType 5 6), (0, u "java/lang/Object"), (0, u "<init>"), (0, u "()V"), (0, .class_ 8), (0, u "java/lang/Record")] 13

def k2c0 : Code := { maxStack := 1, maxLocals := 1, code := jdk_30_method_1_code, exceptionTable := #[], attributes := #[] }
def k2m0 : Method := { name := "<init>", desc := "()V", sig := { parameters := [], returnType := none }, accessFlags := 4, code := some k2c0 }
/-- java/lang/Record -/
def k2 : Class := { plain "java/lang/Record" (some 0) with
  accessFlags := 1057
  interfaces := #[]
  cf := some (fileOf pool2 7 #[] #[{ accessFlags := 4, nameIndex := 5, descriptorIndex := 6, attributes := #[] }] 1057 2 #[] #[])
  fields := #[]
  methods := #[k2m0]
  instanceTypes := #[]
  staticTypes := #[]
  resolved := Array.replicate 22 none
  statics := none }

def pool3 : Array CpInfo := pool [(1, .class_ 2), (0, u "com/example/fieldbook/fieldbook/IndexFormat"), (0, .methodref 4 5), (0, .class_ 6), (0, .nameAndType 7 8), (0, u "java/lang/Record"), (0, u "<init>"), (0, u "()V"), (0, .fieldref 10 11), (0, .class_ 12), (0, .nameAndType 13 14), (0, u "com/example/fieldbook/fieldbook/IndexFormat$Section"), (0, u "start"), (0, u "J"), (0, .fieldref 10 16), (0, .nameAndType 17 14), (0, u "dictionary"), (0, .fieldref 10 19), (0, .nameAndType 20 14), (0, u "table"), (0, .fieldref 10 22), (0, .nameAndType 23 24), (0, u "terms"), (0, u "I"), (0, .fieldref 10 26), (0, .nameAndType 27 28), (0, u "gathered"), (0, u "Z"), (6, .integer 2147483647), (0, .long 8), (13, u "(JJJIZ)V"), (5, u "liesWithin"), (0, u "(JJ)Z")] 31

def k3c0 : Code := { maxStack := 3, maxLocals := 9, code := prog_100_method_1_code, exceptionTable := #[], attributes := #[] }
def k3m0 : Method := { name := "<init>", desc := "(JJJIZ)V", sig := { parameters := [.long, .long, .long, .int, .boolean], returnType := none }, accessFlags := 0, code := some k3c0 }
def k3c1 : Code := { maxStack := 6, maxLocals := 5, code := prog_100_method_3_code, exceptionTable := #[], attributes := #[] }
def k3m1 : Method := { name := "liesWithin", desc := "(JJ)Z", sig := { parameters := [.long, .long], returnType := some .boolean }, accessFlags := 0, code := some k3c1 }
/-- com/example/fieldbook/fieldbook/IndexFormat$Section -/
def k3 : Class := { plain "com/example/fieldbook/fieldbook/IndexFormat$Section" (some 2) with
  accessFlags := 48
  interfaces := #[]
  cf := some (fileOf pool3 10 #[.nestHost 1] #[{ accessFlags := 0, nameIndex := 7, descriptorIndex := 50, attributes := #[] }, { accessFlags := 0, nameIndex := 56, descriptorIndex := 57, attributes := #[] }] 48 4 #[] #[{ accessFlags := 18, nameIndex := 13, descriptorIndex := 14, attributes := #[] }, { accessFlags := 18, nameIndex := 17, descriptorIndex := 14, attributes := #[] }, { accessFlags := 18, nameIndex := 20, descriptorIndex := 14, attributes := #[] }, { accessFlags := 18, nameIndex := 23, descriptorIndex := 24, attributes := #[] }, { accessFlags := 18, nameIndex := 27, descriptorIndex := 28, attributes := #[] }])
  fields := #[{ name := "start", type := .long, accessFlags := 18, slot := 0, constantValue := 0 }, { name := "dictionary", type := .long, accessFlags := 18, slot := 1, constantValue := 0 }, { name := "table", type := .long, accessFlags := 18, slot := 2, constantValue := 0 }, { name := "terms", type := .int, accessFlags := 18, slot := 3, constantValue := 0 }, { name := "gathered", type := .boolean, accessFlags := 18, slot := 4, constantValue := 0 }]
  methods := #[k3m0, k3m1]
  instanceTypes := #[.long, .long, .long, .int, .boolean]
  staticTypes := #[]
  resolved := Array.replicate 89 none
  statics := none }

def pool4 : Array CpInfo := pool [(1, u "java/lang/Cloneable"), (0, .class_ 1), (0, u "java/lang/Object"), (0, .class_ 3)] 3

/-- java/lang/Cloneable -/
def k4 : Class := { plain "java/lang/Cloneable" (some 0) with
  accessFlags := 1537
  interfaces := #[]
  cf := some (fileOf pool4 2 #[] #[] 1537 4 #[] #[])
  fields := #[]
  methods := #[]
  instanceTypes := #[]
  staticTypes := #[]
  resolved := Array.replicate 8 none
  statics := none }

def pool5 : Array CpInfo := pool [(1, u "java/io/Serializable"), (0, .class_ 1), (0, u "java/lang/Object"), (0, .class_ 3)] 3

/-- java/io/Serializable -/
def k5 : Class := { plain "java/io/Serializable" (some 0) with
  accessFlags := 1537
  interfaces := #[]
  cf := some (fileOf pool5 2 #[] #[] 1537 4 #[] #[])
  fields := #[]
  methods := #[]
  instanceTypes := #[]
  staticTypes := #[]
  resolved := Array.replicate 8 none
  statics := none }

/-- the primitive byte -/
def k6 : Class := { plain "byte" none with kind := .primitive 'B', accessFlags := 0x411 }
/-- [B -/
def k7 : Class := { plain "[B" (some 0) with kind := .array 6 .byte, interfaces := #[4, 5], accessFlags := 1041 }

/-- the primitive int -/
def k8 : Class := { plain "int" none with kind := .primitive 'I', accessFlags := 0x411 }
/-- [I -/
def k9 : Class := { plain "[I" (some 0) with kind := .array 8 .int, interfaces := #[4, 5], accessFlags := 1041 }

def heap : Heap := #[]
def classes : Array Class := #[k0, k1, k2, k3, k4, k5, k6, k7, k8, k9]
def interned : List (Array UInt16 × Addr) := []
def slotsUsed : Nat := 0
def theMethod : MethodId := ⟨1, 1⟩
def args0 : Array Value := #[.long 5, .long 1, .long 7, .long 8, .int 3, .long 9]
def aboutOver (below : List Frame) : State where
  vm := { classes := classes, interned := interned.toArray }
  heap := heap
  slotsUsed := slotsUsed
  threads := #[{ frames := .invoking theMethod args0 :: below }]
def below0 : List Frame := [.native { method := ⟨0, 0⟩, args := #[] }]
def about1 : State := aboutOver below0
def p0 : Program := .bare "" "" ""
def e0 : Env := launch0.env 0 0 0
theorem w_frames : about1.frames = Frame.invoking theMethod args0 :: below0 := rfl
set_option maxRecDepth 65536 in
theorem w_args : argsFit about1.vm theMethod args0 = true := by decide +kernel
set_option maxRecDepth 65536 in
theorem w_heap : heapFits about1 = true := by decide +kernel
set_option maxRecDepth 65536 in
theorem w_runnable : about1.curStatus? = some .runnable := by decide +kernel
set_option maxRecDepth 65536 in
theorem w_alone : about1.alone = true := by decide +kernel
set_option maxRecDepth 65536 in
theorem w_named : about1.methodNamed? x = some theMethod := by decide +kernel
set_option maxRecDepth 65536 in
theorem w_hears : about1.hears theMethod below0 = true := by decide +kernel
set_option maxRecDepth 65536 in
theorem w_ripe : about1.ripe theMethod args0 below0 = true := by decide +kernel
theorem w_running : about1.status = .running := rfl
set_option maxRecDepth 65536 in
theorem w_room : about1.hasRoom e0.platform room_1 = true :=
  launch0.hasRoom_least _ room_1 (by decide +kernel) (by decide +kernel) (by decide +kernel) (by decide +kernel) (by decide +kernel) (by decide +kernel)
theorem allAtoms_all (ts : List Jvm.Cond) (a : Array Jvm.Value) (st : Jvm.State) : (allAtoms ts).before a st = ts.all (fun c => c.before a st) := by
  induction ts with
  | nil => rfl
  | cons c t ih =>
    show (Jvm.Cond.and c (allAtoms t)).before a st = _
    rw [Jvm.Cond.before_and, ih, List.all_cons]
def words1 : List Jvm.Cond := Jvm.Cond.code x code maxLocals ret :: tables_1
/-- a 'code' word, met by the world's own term for the bytes: nothing is compared byte by byte -/
theorem code_word {y : MethodName} {bytes : ByteArray} {mx : Nat} {rt : Option FieldType} {a : Array Value} {s : State} {m : MethodId} {meth : Method} {c : Code} (h1 : s.methodNamed? y = some m) (h2 : s.vm.method? m = some meth) (h3 : meth.code = some c) (h4 : c.code = bytes)
    (h5 : (c.maxLocals == mx && c.exceptionTable.isEmpty && decide (c.maxStack ≤ mostOperands) && decide (meth.sig.returnType = rt) && !meth.locks && decide (parseMethodDescriptor y.desc = some meth.sig)) = true) : (Jvm.Cond.code y bytes mx rt).before a s = true := by
  simp only [Bool.and_eq_true, beq_iff_eq, Bool.not_eq_true', decide_eq_true_eq] at h5
  obtain ⟨⟨⟨⟨⟨g1, g2⟩, g3⟩, g4⟩, g5⟩, g6⟩ := h5
  simp [Cond.before, Cond.holds, Cond.value, h1, h2, h3, h4, g1, g2, g3, g4, g5, g6]
def isCode : Jvm.Cond → Bool
  | .code _ _ _ _ => true
  | _ => false
theorem all_split {L : List Jvm.Cond} {P : Jvm.Cond → Bool} (h1 : L.all (fun c => isCode c || P c) = true) (h2 : ∀ c ∈ L.filter isCode, P c = true) : L.all P = true := by
  refine List.all_eq_true.mpr fun c hc => ?_
  have h := List.all_eq_true.mp h1 c hc
  rcases Bool.eq_false_or_eq_true (isCode c) with hi | hi
  · exact h2 c (List.mem_filter.mpr ⟨hc, hi⟩)
  · simpa [hi] using h
set_option maxRecDepth 65536 in
theorem w_c0 : (Jvm.Cond.code x code maxLocals ret).before args0 about1 = true := code_word (m := ⟨1, 1⟩) (meth := k1m1) (c := k1c1) (by decide +kernel) rfl rfl rfl (by decide +kernel)
set_option maxRecDepth 65536 in
theorem w_c1 : (Jvm.Cond.code ({ cls := "com/example/fieldbook/fieldbook/IndexFormat$Section", name := "<init>", desc := "(JJJIZ)V" } : Jvm.MethodName) prog_100_method_1_code (9 : Nat) (Option.none : Option Jvm.ClassFile.FieldType)).before args0 about1 = true := code_word (m := ⟨3, 0⟩) (meth := k3m0) (c := k3c0) (by decide +kernel) rfl rfl rfl (by decide +kernel)
set_option maxRecDepth 65536 in
theorem w_c2 : (Jvm.Cond.code ({ cls := "java/lang/Record", name := "<init>", desc := "()V" } : Jvm.MethodName) jdk_30_method_1_code (1 : Nat) (Option.none : Option Jvm.ClassFile.FieldType)).before args0 about1 = true := code_word (m := ⟨2, 0⟩) (meth := k2m0) (c := k2c0) (by decide +kernel) rfl rfl rfl (by decide +kernel)
set_option maxRecDepth 65536 in
theorem w_c3 : (Jvm.Cond.code ({ cls := "java/lang/Object", name := "<init>", desc := "()V" } : Jvm.MethodName) object_method_1_code (1 : Nat) (Option.none : Option Jvm.ClassFile.FieldType)).before args0 about1 = true := code_word (m := ⟨0, 0⟩) (meth := k0m0) (c := k0c0) (by decide +kernel) rfl rfl rfl (by decide +kernel)
set_option maxRecDepth 65536 in
theorem w_c4 : (Jvm.Cond.code ({ cls := "com/example/fieldbook/fieldbook/IndexFormat$Section", name := "liesWithin", desc := "(JJ)Z" } : Jvm.MethodName) prog_100_method_3_code (5 : Nat) (Option.some Jvm.ClassFile.FieldType.boolean)).before args0 about1 = true := code_word (m := ⟨3, 1⟩) (meth := k3m1) (c := k3c1) (by decide +kernel) rfl rfl rfl (by decide +kernel)
set_option maxRecDepth 65536 in
theorem w_c5 : (Jvm.Cond.code ({ cls := "com/example/fieldbook/fieldbook/SectionLiesWithinPinLaw", name := "expected", desc := "(JJJJIJ)Z" } : Jvm.MethodName) method_3_code (13 : Nat) (Option.some Jvm.ClassFile.FieldType.boolean)).before args0 about1 = true := code_word (m := ⟨1, 2⟩) (meth := k1m2) (c := k1c2) (by decide +kernel) rfl rfl rfl (by decide +kernel)
def codes1 : List Jvm.Cond := [Jvm.Cond.code x code maxLocals ret, Jvm.Cond.code ({ cls := "com/example/fieldbook/fieldbook/IndexFormat$Section", name := "<init>", desc := "(JJJIZ)V" } : Jvm.MethodName) prog_100_method_1_code (9 : Nat) (Option.none : Option Jvm.ClassFile.FieldType), Jvm.Cond.code ({ cls := "java/lang/Record", name := "<init>", desc := "()V" } : Jvm.MethodName) jdk_30_method_1_code (1 : Nat) (Option.none : Option Jvm.ClassFile.FieldType), Jvm.Cond.code ({ cls := "java/lang/Object", name := "<init>", desc := "()V" } : Jvm.MethodName) object_method_1_code (1 : Nat) (Option.none : Option Jvm.ClassFile.FieldType), Jvm.Cond.code ({ cls := "com/example/fieldbook/fieldbook/IndexFormat$Section", name := "liesWithin", desc := "(JJ)Z" } : Jvm.MethodName) prog_100_method_3_code (5 : Nat) (Option.some Jvm.ClassFile.FieldType.boolean), Jvm.Cond.code ({ cls := "com/example/fieldbook/fieldbook/SectionLiesWithinPinLaw", name := "expected", desc := "(JJJJIJ)Z" } : Jvm.MethodName) method_3_code (13 : Nat) (Option.some Jvm.ClassFile.FieldType.boolean)]
set_option maxRecDepth 65536 in
theorem codes_eq : words1.filter isCode = codes1 := rfl
theorem w_codes : ∀ c ∈ words1.filter isCode, c.before args0 about1 = true := by
  rw [codes_eq]
  intro c hc
  simp only [codes1, List.mem_cons, List.not_mem_nil, or_false] at hc
  rcases hc with rfl | rfl | rfl | rfl | rfl | rfl
  · exact w_c0
  · exact w_c1
  · exact w_c2
  · exact w_c3
  · exact w_c4
  · exact w_c5
set_option maxRecDepth 65536 in
theorem w_t1 : (words1.take 24).all (fun c => isCode c || c.before args0 about1) = true := by decide +kernel
set_option maxRecDepth 65536 in
theorem w_t2 : (words1.drop 24).all (fun c => isCode c || c.before args0 about1) = true := by decide +kernel
theorem w_tables : (allAtoms (Jvm.Cond.code x code maxLocals ret :: tables_1)).before args0 about1 = true := by
  rw [allAtoms_all]
  show words1.all (fun c => c.before args0 about1) = true
  refine all_split ?_ w_codes
  rw [← List.take_append_drop 24 words1, List.all_append, w_t1, w_t2]
  rfl
set_option maxRecDepth 65536 in
theorem w_case : (Jvm.Cond.and given_1 narrow_1).before args0 about1 = true := by decide +kernel
theorem w_applies : (headSpec (Jvm.Cond.code x code maxLocals ret :: tables_1) room_1).applies x e0.platform about1 = true :=
  (Spec.applies_iff w_frames).mpr ⟨w_running, w_runnable, w_alone, w_named, w_hears, w_ripe, w_room, w_tables⟩
theorem atStart : AtStart classFile x code maxLocals ret World_1 tables_1 room_1 Calls_1 rest_1 Pre_1 launch0 p0 e0 about1 theMethod args0 below0 :=
  ⟨lists_1, trivial, launch0.admits_env _ _ _, launch0.least_env, fairChoices_fair.cas, fairChoices_fair.clock, w_frames, w_args, w_heap, w_applies, trivial, trivial, w_case⟩
end start1
theorem witness_1 : WitnessClaimed_1 := ⟨start1.p0, start1.e0, start1.about1, start1.theMethod, start1.args0, start1.below0, start1.atStart⟩
end Jvm.Pilot.@@N@@
