import JvmDerived
import JvmDerived.Pilot.@@N@@Statement
import JvmDerived.Pilot.@@N@@Code
set_option linter.unusedVariables false
set_option linter.unusedSimpArgs false
@@BLOCK:NumsL.lean.txt@@
@@BLOCK:Masks.lean.txt@@
namespace Jvm.RoadKit
open Sem ClassFile Op Lib Jvm.Stand Jvm.Free Jvm.LawKit
section New
variable {p : Program} {l : Launch} {e : Env} {R : Room} {s : State} {m : MethodId} {args : Array Value} {below : List Frame} {meth : Method} {c : Code} {T : State} {locs : List Loc} {cells slots : Nat}
theorem retI (X : Stand p l e R s m args below meth c T locs cells slots) (hx : p.tables.exec = Jvm.exec) {pc : Nat} {Ls : Array Slot} {z : Int32} {rest : List Value} (hret : meth.sig.returnType = some .int) (hd : decode c.code pc = .ok (.ireturn, 1)) {fs : List Frame}
    (hl : ∀ (f : JFrame) (acts : List Action), f.method = m → f.locked = none → f.entered = [] → (doReturn e (T.setTop f) acts (some (.int z))).1 = T.setFrames fs) : Steps p.tables e below (T.setTop (mkF m pc Ls (.int z :: rest))) (T.setFrames fs) := by
  have hm' : T.vm.method? m = some meth := X.method'
  have hn : narrow .int (.int z) = .int z := rfl
  show Steps p.tables e below (T.setTop { method := m, pc := pc, locals := Ls, stack := _ :: rest, locked := none }) _
  jvm_step X.here [X.here.top, hx, hd, hm', hret, hn]
  first | (intro acts; rw [hl _ acts rfl rfl rfl]) | rw [hl _ _ rfl rfl rfl]
  exact Steps.refl _
end New
end Jvm.RoadKit
namespace Jvm.Pilot.@@N@@
open Jvm Jvm.ClassFile Sem Op Lib Jvm.Free Jvm.Stand Jvm.LawKit Jvm.RoadKit Bundle Jvm.Pilot.@@N@@.Jvm.D
abbrev own_Go (p : Program) (e : Env) (below : List Frame) (s : State) (Q : Option Value → Heap → List Loc → Prop) (cs ss : Nat) (a : State) : Prop := ∃ (t : State) (o : Outcome), Steps p.tables e below a t ∧ t.status = .running ∧ Ended t below o ∧ ∃ (v : Option Value) (L : List Loc), o = .returned v ∧ Q v t.heap L ∧ FrameEnd s o t L cs ss
section Own
variable {p : Program} {l : Launch} {e : Env} {R : Room} {s : State} {m : MethodId} {args : Array Value} {below : List Frame} {meth : Method} {c : Code} {T : State} {locs : List Loc} {cells slots : Nat} {Q : Option Value → Heap → List Loc → Prop} {cs ss : Nat}
theorem own_go {a b : State} (h : ∀ t, Steps p.tables e below b t → Steps p.tables e below a t) (g : own_Go p e below s Q cs ss b) : own_Go p e below s Q cs ss a := by
  obtain ⟨t, o, h1, h2⟩ := g
  exact ⟨t, o, h t h1, h2⟩
theorem own_end (X : Stand p l e R s m args below meth c T locs cells slots) (hlk : meth.locks = false) {v : Option Value} (hv : meth.sig.returnType = none → v = none) {a : State}
    (hs : ∀ fs, (∀ (f : JFrame) (acts : List Action), f.method = m → f.locked = none → f.entered = [] → (doReturn e (T.setTop f) acts v).1 = T.setFrames fs) → Steps p.tables e below a (T.setFrames fs))
    {h : Heap} (eT : T.heap = h) (hq : Q v h locs) (h1 : cells ≤ cs) (h2 : slots ≤ ss) : own_Go p e below s Q cs ss a := by
  obtain ⟨fs, hr, hrun, hended, hW, hsame⟩ := X.leave hv hlk
  subst eT
  exact ⟨_, _, hs fs hr, hrun, hended, _, _, rfl, hq, ⟨_, rfl⟩, hW, hsame.mono h1 h2⟩
end Own
theorem own_hin {n : Nat} {cl : Cell} {j : Int32} (S : cl.slots.size = n) (h : ¬ j < 0 ∧ j.toNatClampNeg < n) : ¬ (j < 0 ∨ cl.slots.size ≤ j.toNatClampNeg) := by
  rw [S]; exact fun q => q.elim h.1 (fun u => absurd h.2 (Nat.not_lt.mpr u))
theorem own_has {cl : Cell} {xs : List Int32} {n : Nat} (H : Has cl (xs.map Value.int) (.int 0)) (S : cl.slots.size = n) : ∀ i, i < n → cl.slots[i]? = some (.int (xs.getD i 0)) := by
  intro i hi
  rw [H i (by rw [S]; exact hi)]
  simp only [List.getD_eq_getElem?_getD, List.getElem?_map]
  cases xs[i]? <;> rfl
theorem own_hasL {cl : Cell} {xs : List Int64} {n : Nat} (H : Has cl (xs.map Value.long) (.long 0)) (S : cl.slots.size = n) : ∀ i, i < n → cl.slots[i]? = some (.long (xs.getD i 0)) := by
  intro i hi
  rw [H i (by rw [S]; exact hi)]
  simp only [List.getD_eq_getElem?_getD, List.getElem?_map]
  cases xs[i]? <;> rfl
theorem d1_0 : decode prog_62_method_1_code 0 = .ok (.aload_n 0, 1) := by decide +kernel
theorem d1_1 : decode prog_62_method_1_code 1 = .ok (.invokespecial 1, 3) := by decide +kernel
theorem d1_4 : decode prog_62_method_1_code 4 = .ok (.aload_n 0, 1) := by decide +kernel
theorem d1_5 : decode prog_62_method_1_code 5 = .ok (.lload_n 1, 1) := by decide +kernel
theorem d1_6 : decode prog_62_method_1_code 6 = .ok (.putfield 7, 3) := by decide +kernel
theorem d1_9 : decode prog_62_method_1_code 9 = .ok (.aload_n 0, 1) := by decide +kernel
theorem d1_10 : decode prog_62_method_1_code 10 = .ok (.lload_n 3, 1) := by decide +kernel
theorem d1_11 : decode prog_62_method_1_code 11 = .ok (.putfield 13, 3) := by decide +kernel
theorem d1_14 : decode prog_62_method_1_code 14 = .ok (.return_, 1) := by decide +kernel
theorem pn_1 : plainName "com/example/cicada/cicada/node/Backoff" = true := by first | (simp [plainName, overriddenIn]; done) | decide +kernel
theorem ef_1 (m : MethodId) (x0 : Addr) (x1 : Int64) (x2 : Int64) : entryFrame m #[(.ref x0), (.long x1), (.long x2)] 5 = mkF m 0 #[.val (.ref x0), .val (.long x1), .second, .val (.long x2), .second] [] := by first | (simp [entryFrame, mkF, argsToLocals, Value.category]; done) | rfl
def Q1 (Z : State) (b1 : Addr) (y1 : Int64) (y2 : Int64) (h0 : Heap) (n0 : Nat) (v : Option Value) (h : Heap) (L : List Loc) : Prop := v = none ∧ Fr n0 L ∧ Keep h0 h [b1] ∧ Exa Z h b1 "com/example/cicada/cicada/node/Backoff" ∧ Fld Z h b1 "com/example/cicada/cicada/node/Backoff" "firstMs" "J" (.long y1) ∧ Fld Z h b1 "com/example/cicada/cicada/node/Backoff" "lastMs" "J" (.long y2) ∧ Fld Z h b1 "com/example/cicada/cicada/node/Backoff" "ms" "J" (.long (0 : Int64))
set_option maxRecDepth 65536 in
set_option maxHeartbeats 40000000 in
theorem rm1 (l : Launch) (Z : State) (a0 : Array Value) (hw : ∀ d ∈ tables_1, d.before a0 Z = true) (ws : List Jvm.Cond)  (b1 : Addr) (y1 : Int64) (y2 : Int64) (h0 : Heap) (n0 : Nat) (Z0 : n0 ≤ h0.size) (F_firstMs : Fld Z h0 b1 "com/example/cicada/cicada/node/Backoff" "firstMs" "J" (.long (0 : Int64))) (F_lastMs : Fld Z h0 b1 "com/example/cicada/cicada/node/Backoff" "lastMs" "J" (.long (0 : Int64))) (F_ms : Fld Z h0 b1 "com/example/cicada/cicada/node/Backoff" "ms" "J" (.long (0 : Int64))) (E_b1 : Exa Z h0 b1 "com/example/cicada/cicada/node/Backoff") (lo_b1 : n0 ≤ b1)  :
    MetFree l (⟨"com/example/cicada/cicada/node/Backoff", "<init>", "(JJ)V"⟩ : MethodName) (head1 (Jvm.Cond.code (⟨"com/example/cicada/cicada/node/Backoff", "<init>", "(JJ)V"⟩ : MethodName) prog_62_method_1_code 5 none :: ws) ({ frames := 1, cells := 0, slots := 0, locals := 12 } : Room)) (fun a U => a = #[(.ref b1), (.long y1), (.long y2)] ∧ Z.Warmed39 U.vm ∧ U.heap = h0) (fun _ _ _ _ _ => True) (fun _ U o U' => ∃ v L, o = .returned v ∧ Q1 Z b1 y1 y2 h0 n0 v U'.heap L ∧ FrameEnd U o U' L ({ frames := 1, cells := 0, slots := 0, locals := 12 } : Room).cells ({ frames := 1, cells := 0, slots := 0, locals := 12 } : Room).slots) := by
  refine MetFree.of_bodySF (plainFor_of_name pn_1) hisR ?_
  intro p e s m args below meth c s₁ Bd hml0 hP hK
  obtain ⟨rfl, hZ, hh⟩ := hP
  have hx := Bd.exec
  have hby := Bd.bytes
  have hml : c.maxLocals = 5 := hml0
  have hown : s.vm.findClass "com/example/cicada/cicada/node/Backoff" = some m.cls := findClass_of_methodNamed Bd.named
  have hnm := (name_of_methodNamed Bd.named Bd.method).1
  have X0 : Stand p l e ({ frames := 1, cells := 0, slots := 0, locals := 12 } : Room) s m #[(.ref b1), (.long y1), (.long y2)] below meth c s₁ [] 0 0 := Stand.of_body Bd
  have e0 : s₁.heap = h0 := by rw [← hh, Bd.state]; rfl
  have N0 := Fr.nil n0
  show own_Go p e below s (Q1 Z b1 y1 y2 h0 n0) ({ frames := 1, cells := 0, slots := 0, locals := 12 } : Room).cells ({ frames := 1, cells := 0, slots := 0, locals := 12 } : Room).slots (s₁.setTop (entryFrame m #[(.ref b1), (.long y1), (.long y2)] 5))
  refine own_go (b := s₁.setTop (mkF m 0 #[.val (.ref b1), .val (.long y1), .second, .val (.long y2), .second] [])) (fun t k => castTop (ef_1 m b1 y1 y2) k) ?_
  have K0 := Keep.refl h0 [b1]
  obtain ⟨T1, X1, e1, st1⟩ := initO X0 hx hZ hown (hw _ (List.mem_of_getElem? (i := 7) rfl)) (hw _ (List.mem_of_getElem? (i := 8) rfl)) (hw _ (List.mem_of_getElem? (i := 9) rfl)) e0 (g := (mkF m 1 #[.val (.ref b1), .val (.long y1), .second, .val (.long y2), .second] [(.ref b1)])) rfl (by rw [hml]; rfl) rfl (hb hby d1_1) (by decide) (W := 0) (by show 2 * 0 + _ ≤ _; exact Nat.le_of_eq rfl) (by decide)
  obtain ⟨T2, h2, X2, e2, W2, st2⟩ := putF X1 hx hZ hown (host := "") (Or.inl (hw _ (List.mem_of_getElem? (i := 10) rfl))) Via.refl e1 F_firstMs E_b1 (Or.inr ⟨(hw _ (List.mem_of_getElem? (i := 11) rfl)), rfl, hnm⟩) (hw _ (List.mem_of_getElem? (i := 2) rfl)) (ty := .long) (by decide) rfl rfl (g := (mkF m 6 #[.val (.ref b1), .val (.long y1), .second, .val (.long y2), .second] [(.long y1), (.ref b1)])) rfl rfl (hb hby d1_6)
  have N2 := Fr.snoc X2 N0 lo_b1
  have K2 := K0.wr W2 (Or.inl (List.mem_of_getElem? (i := 0) rfl))
  have F3 : Fld Z h2 b1 "com/example/cicada/cicada/node/Backoff" "firstMs" "J" (.long y1) := F_firstMs.same W2
  have F4 := F_lastMs.other W2 (Or.inr (slot_ne (Or.inr (hw _ (List.mem_of_getElem? (i := 13) rfl))) (Or.inr (hw _ (List.mem_of_getElem? (i := 11) rfl))) (by decide) (t := .long) (t' := .long) (by decide) (by decide)))
  have F5 := F_ms.other W2 (Or.inr (slot_ne (Or.inl (hw _ (List.mem_of_getElem? (i := 20) rfl))) (Or.inr (hw _ (List.mem_of_getElem? (i := 11) rfl))) (by decide) (t := .long) (t' := .long) (by decide) (by decide)))
  have E6 := E_b1.wr W2
  have Z2 : n0 ≤ h2.size := by rw [W2.size]; exact Z0
  obtain ⟨T7, h7, X7, e7, W7, st7⟩ := putF X2 hx hZ hown (host := "") (Or.inl (hw _ (List.mem_of_getElem? (i := 12) rfl))) Via.refl e2 F4 E6 (Or.inr ⟨(hw _ (List.mem_of_getElem? (i := 13) rfl)), rfl, hnm⟩) (hw _ (List.mem_of_getElem? (i := 2) rfl)) (ty := .long) (by decide) rfl rfl (g := (mkF m 11 #[.val (.ref b1), .val (.long y1), .second, .val (.long y2), .second] [(.long y2), (.ref b1)])) rfl rfl (hb hby d1_11)
  have N7 := Fr.snoc X7 N2 lo_b1
  have K7 := K2.wr W7 (Or.inl (List.mem_of_getElem? (i := 0) rfl))
  have F8 : Fld Z h7 b1 "com/example/cicada/cicada/node/Backoff" "lastMs" "J" (.long y2) := F4.same W7
  have F9 := F3.other W7 (Or.inr (slot_ne (Or.inr (hw _ (List.mem_of_getElem? (i := 11) rfl))) (Or.inr (hw _ (List.mem_of_getElem? (i := 13) rfl))) (by decide) (t := .long) (t' := .long) (by decide) (by decide)))
  have F10 := F5.other W7 (Or.inr (slot_ne (Or.inl (hw _ (List.mem_of_getElem? (i := 20) rfl))) (Or.inr (hw _ (List.mem_of_getElem? (i := 13) rfl))) (by decide) (t := .long) (t' := .long) (by decide) (by decide)))
  have E11 := E6.wr W7
  have Z7 : n0 ≤ h7.size := by rw [W7.size]; exact Z2
  refine own_end X7 Bd.notSynchronized (v := none) (fun _ => rfl) (fun fs hr => ?_) e7 ?_ (by decide) (by decide)
  · show Steps p.tables e below (s₁.setTop (mkF m 0 #[.val (.ref b1), .val (.long y1), .second, .val (.long y2), .second] [])) _
    refine XS.aloadN X0.here hx rfl (hb hby d1_0) rfl rfl ?_
    show Steps p.tables e below (s₁.setTop (mkF m 1 #[.val (.ref b1), .val (.long y1), .second, .val (.long y2), .second] [(.ref b1)])) _
    refine st1 _ ?_
    show Steps p.tables e below (T1.setTop (mkF m 4 #[.val (.ref b1), .val (.long y1), .second, .val (.long y2), .second] [])) _
    refine XS.aloadN X1.here hx rfl (hb hby d1_4) rfl rfl ?_
    show Steps p.tables e below (T1.setTop (mkF m 5 #[.val (.ref b1), .val (.long y1), .second, .val (.long y2), .second] [(.ref b1)])) _
    refine XS.lloadN X1.here hx rfl (hb hby d1_5) rfl ?_
    show Steps p.tables e below (T1.setTop (mkF m 6 #[.val (.ref b1), .val (.long y1), .second, .val (.long y2), .second] [(.long y1), (.ref b1)])) _
    refine st2 _ ?_
    show Steps p.tables e below (T2.setTop (mkF m 9 #[.val (.ref b1), .val (.long y1), .second, .val (.long y2), .second] [])) _
    refine XS.aloadN X2.here hx rfl (hb hby d1_9) rfl rfl ?_
    show Steps p.tables e below (T2.setTop (mkF m 10 #[.val (.ref b1), .val (.long y1), .second, .val (.long y2), .second] [(.ref b1)])) _
    refine XS.lloadN X2.here hx rfl (hb hby d1_10) rfl ?_
    show Steps p.tables e below (T2.setTop (mkF m 11 #[.val (.ref b1), .val (.long y1), .second, .val (.long y2), .second] [(.long y2), (.ref b1)])) _
    refine st7 _ ?_
    show Steps p.tables e below (T7.setTop (mkF m 14 #[.val (.ref b1), .val (.long y1), .second, .val (.long y2), .second] [])) _
    exact X7.returnOut hx Bd.returns (hb hby d1_14) hr
  · exact ⟨rfl, N7, K7, E11, F9, F8, F10⟩
def own_ms_0 (y1 : Int64)  : Int64 :=
  y1
theorem d2_0 : decode prog_62_method_2_code 0 = .ok (.aload_n 0, 1) := by decide +kernel
theorem d2_1 : decode prog_62_method_2_code 1 = .ok (.getfield 16, 3) := by decide +kernel
theorem d2_4 : decode prog_62_method_2_code 4 = .ok (.lreturn, 1) := by decide +kernel
theorem pn_2 : plainName "com/example/cicada/cicada/node/Backoff" = true := by first | (simp [plainName, overriddenIn]; done) | decide +kernel
theorem ef_2 (m : MethodId) (x0 : Addr) : entryFrame m #[(.ref x0)] 1 = mkF m 0 #[.val (.ref x0)] [] := by first | (simp [entryFrame, mkF, argsToLocals, Value.category]; done) | rfl
def Q2 (b1 : Addr) (y1 : Int64) (h0 : Heap) (n0 : Nat) (v : Option Value) (h : Heap) (L : List Loc) : Prop := v = some (.long (own_ms_0 y1)) ∧ Fr n0 L ∧ h = h0
set_option maxRecDepth 65536 in
set_option maxHeartbeats 40000000 in
theorem rm2 (l : Launch) (Z : State) (a0 : Array Value) (hw : ∀ d ∈ tables_1, d.before a0 Z = true) (ws : List Jvm.Cond) (b1 : Addr) (y1 : Int64) (h0 : Heap) (n0 : Nat) (Z0 : n0 ≤ h0.size) (F_y1 : Fld Z h0 b1 "com/example/cicada/cicada/node/Backoff" "ms" "J" (.long y1))  :
    MetFree l (⟨"com/example/cicada/cicada/node/Backoff", "ms", "()J"⟩ : MethodName) (head1 (Jvm.Cond.code (⟨"com/example/cicada/cicada/node/Backoff", "ms", "()J"⟩ : MethodName) prog_62_method_2_code 1 (some .long) :: ws) ({ frames := 0, cells := 0, slots := 0, locals := 0 } : Room)) (fun a U => a = #[(.ref b1)] ∧ Z.Warmed39 U.vm ∧ U.heap = h0) (fun _ _ _ _ _ => True) (fun _ U o U' => ∃ v L, o = .returned v ∧ Q2 b1 y1 h0 n0 v U'.heap L ∧ FrameEnd U o U' L ({ frames := 0, cells := 0, slots := 0, locals := 0 } : Room).cells ({ frames := 0, cells := 0, slots := 0, locals := 0 } : Room).slots) := by
  refine MetFree.of_bodySF (plainFor_of_name pn_2) hisR ?_
  intro p e s m args below meth c s₁ Bd hml0 hP hK
  obtain ⟨rfl, hZ, hh⟩ := hP
  have hx := Bd.exec
  have hby := Bd.bytes
  have hml : c.maxLocals = 1 := hml0
  have hown : s.vm.findClass "com/example/cicada/cicada/node/Backoff" = some m.cls := findClass_of_methodNamed Bd.named
  have hnm := (name_of_methodNamed Bd.named Bd.method).1
  have X0 : Stand p l e ({ frames := 0, cells := 0, slots := 0, locals := 0 } : Room) s m #[(.ref b1)] below meth c s₁ [] 0 0 := Stand.of_body Bd
  have e0 : s₁.heap = h0 := by rw [← hh, Bd.state]; rfl
  have N0 := Fr.nil n0
  show own_Go p e below s (Q2 b1 y1 h0 n0) ({ frames := 0, cells := 0, slots := 0, locals := 0 } : Room).cells ({ frames := 0, cells := 0, slots := 0, locals := 0 } : Room).slots (s₁.setTop (entryFrame m #[(.ref b1)] 1))
  refine own_go (b := s₁.setTop (mkF m 0 #[.val (.ref b1)] [])) (fun t k => castTop (ef_2 m b1) k) ?_
  obtain ⟨T1, X1, e1, st1⟩ := getF X0 hx hZ hown (host := "") (Or.inl (hw _ (List.mem_of_getElem? (i := 19) rfl))) Via.refl e0 F_y1 (g := (mkF m 1 #[.val (.ref b1)] [(.ref b1)])) rfl rfl (hb hby d2_1)
  refine own_end X1 Bd.notSynchronized (v := some (.long y1)) (fun h => by rw [Bd.returns] at h; cases h) (fun fs hr => ?_) e1 ?_ (by decide) (by decide)
  · show Steps p.tables e below (s₁.setTop (mkF m 0 #[.val (.ref b1)] [])) _
    refine XS.aloadN X0.here hx rfl (hb hby d2_0) rfl rfl ?_
    show Steps p.tables e below (s₁.setTop (mkF m 1 #[.val (.ref b1)] [(.ref b1)])) _
    refine st1 _ ?_
    show Steps p.tables e below (T1.setTop (mkF m 4 #[.val (.ref b1)] [(.long y1)])) _
    exact X1.lreturnOut hx Bd.returns (hb hby d2_4) hr
  · exact ⟨by rw [own_ms_0], N0, rfl⟩
def own_min_0 (y1 : Int64) (y2 : Int64)  : Int64 :=
  if y2 < y1 then
    y2
  else
    y1
theorem d3_0 : decode jdk_29_method_70_code 0 = .ok (.lload_n 0, 1) := by decide +kernel
theorem d3_1 : decode jdk_29_method_70_code 1 = .ok (.lload_n 2, 1) := by decide +kernel
theorem d3_2 : decode jdk_29_method_70_code 2 = .ok (.lcmp, 1) := by decide +kernel
theorem d3_3 : decode jdk_29_method_70_code 3 = .ok (.ifCond .gt 7, 3) := by decide +kernel
theorem d3_6 : decode jdk_29_method_70_code 6 = .ok (.lload_n 0, 1) := by decide +kernel
theorem d3_7 : decode jdk_29_method_70_code 7 = .ok (.goto 4, 3) := by decide +kernel
theorem d3_10 : decode jdk_29_method_70_code 10 = .ok (.lload_n 2, 1) := by decide +kernel
theorem d3_11 : decode jdk_29_method_70_code 11 = .ok (.lreturn, 1) := by decide +kernel
theorem pn_3 : plainFor (⟨"java/lang/Math", "min", "(JJ)J"⟩ : MethodName) = true := by decide +kernel
theorem ef_3 (m : MethodId) (x0 : Int64) (x1 : Int64) : entryFrame m #[(.long x0), (.long x1)] 4 = mkF m 0 #[.val (.long x0), .second, .val (.long x1), .second] [] := by first | (simp [entryFrame, mkF, argsToLocals, Value.category]; done) | rfl
def Q3 (y1 : Int64) (y2 : Int64) (h0 : Heap) (n0 : Nat) (v : Option Value) (h : Heap) (L : List Loc) : Prop := v = some (.long (own_min_0 y1 y2)) ∧ Fr n0 L ∧ h = h0
set_option maxRecDepth 65536 in
set_option maxHeartbeats 40000000 in
theorem rm3 (l : Launch) (Z : State) (a0 : Array Value) (hw : ∀ d ∈ tables_1, d.before a0 Z = true) (ws : List Jvm.Cond) (y1 : Int64) (y2 : Int64) (h0 : Heap) (n0 : Nat) (Z0 : n0 ≤ h0.size)   :
    MetFree l (⟨"java/lang/Math", "min", "(JJ)J"⟩ : MethodName) (head1 (Jvm.Cond.code (⟨"java/lang/Math", "min", "(JJ)J"⟩ : MethodName) jdk_29_method_70_code 4 (some .long) :: ws) ({ frames := 0, cells := 0, slots := 0, locals := 0 } : Room)) (fun a U => a = #[(.long y1), (.long y2)] ∧ Z.Warmed39 U.vm ∧ U.heap = h0) (fun _ _ _ _ _ => True) (fun _ U o U' => ∃ v L, o = .returned v ∧ Q3 y1 y2 h0 n0 v U'.heap L ∧ FrameEnd U o U' L ({ frames := 0, cells := 0, slots := 0, locals := 0 } : Room).cells ({ frames := 0, cells := 0, slots := 0, locals := 0 } : Room).slots) := by
  refine MetFree.of_bodySF pn_3 hisR ?_
  intro p e s m args below meth c s₁ Bd hml0 hP hK
  obtain ⟨rfl, hZ, hh⟩ := hP
  have hx := Bd.exec
  have hby := Bd.bytes
  have hml : c.maxLocals = 4 := hml0
  have hown : s.vm.findClass "java/lang/Math" = some m.cls := findClass_of_methodNamed Bd.named
  have hnm := (name_of_methodNamed Bd.named Bd.method).1
  have X0 : Stand p l e ({ frames := 0, cells := 0, slots := 0, locals := 0 } : Room) s m #[(.long y1), (.long y2)] below meth c s₁ [] 0 0 := Stand.of_body Bd
  have e0 : s₁.heap = h0 := by rw [← hh, Bd.state]; rfl
  have N0 := Fr.nil n0
  show own_Go p e below s (Q3 y1 y2 h0 n0) ({ frames := 0, cells := 0, slots := 0, locals := 0 } : Room).cells ({ frames := 0, cells := 0, slots := 0, locals := 0 } : Room).slots (s₁.setTop (entryFrame m #[(.long y1), (.long y2)] 4))
  refine own_go (b := s₁.setTop (mkF m 0 #[.val (.long y1), .second, .val (.long y2), .second] [])) (fun t k => castTop (ef_3 m y1 y2) k) ?_
  refine own_go (b := s₁.setTop (mkF m 3 #[.val (.long y1), .second, .val (.long y2), .second] [(.int (lcmpW y1 y2))])) (fun t k => ?_) ?_
  · show Steps p.tables e below (s₁.setTop (mkF m 0 #[.val (.long y1), .second, .val (.long y2), .second] [])) _
    refine XS.lloadN X0.here hx rfl (hb hby d3_0) rfl ?_
    show Steps p.tables e below (s₁.setTop (mkF m 1 #[.val (.long y1), .second, .val (.long y2), .second] [(.long y1)])) _
    refine XS.lloadN X0.here hx rfl (hb hby d3_1) rfl ?_
    show Steps p.tables e below (s₁.setTop (mkF m 2 #[.val (.long y1), .second, .val (.long y2), .second] [(.long y2), (.long y1)])) _
    refine XS.lcmp X0.here hx rfl (hb hby d3_2) rfl ?_
    show Steps p.tables e below (s₁.setTop (mkF m 3 #[.val (.long y1), .second, .val (.long y2), .second] [(.int (lcmpW y1 y2))])) _
    exact k
  by_cases hc3 : y2 < y1
  · refine own_end X0 Bd.notSynchronized (v := some (.long y2)) (fun h => by rw [Bd.returns] at h; cases h) (fun fs hr => ?_) e0 ?_ (by decide) (by decide)
    · show Steps p.tables e below (s₁.setTop (mkF m 3 #[.val (.long y1), .second, .val (.long y2), .second] [(.int (lcmpW y1 y2))])) _
      refine XS.ifYes X0.here hx rfl (pc0 := 3) (pc' := 10) rfl (hb hby d3_3) rfl ((if0 _ _).trans (tlt ((lw_gt y1 y2).mpr hc3)).2.2.1) (by decide) (by decide) ?_
      show Steps p.tables e below (s₁.setTop (mkF m 10 #[.val (.long y1), .second, .val (.long y2), .second] [])) _
      refine XS.lloadN X0.here hx rfl (hb hby d3_10) rfl ?_
      show Steps p.tables e below (s₁.setTop (mkF m 11 #[.val (.long y1), .second, .val (.long y2), .second] [(.long y2)])) _
      exact X0.lreturnOut hx Bd.returns (hb hby d3_11) hr
    · exact ⟨by rw [own_min_0, if_pos hc3], N0, rfl⟩
  · refine own_end X0 Bd.notSynchronized (v := some (.long y1)) (fun h => by rw [Bd.returns] at h; cases h) (fun fs hr => ?_) e0 ?_ (by decide) (by decide)
    · show Steps p.tables e below (s₁.setTop (mkF m 3 #[.val (.long y1), .second, .val (.long y2), .second] [(.int (lcmpW y1 y2))])) _
      refine XS.ifNo X0.here hx rfl (hb hby d3_3) rfl ((if0 _ _).trans (flt (fun q => hc3 ((lw_gt y1 y2).mp q))).2.2.1) ?_
      show Steps p.tables e below (s₁.setTop (mkF m 6 #[.val (.long y1), .second, .val (.long y2), .second] [])) _
      refine XS.lloadN X0.here hx rfl (hb hby d3_6) rfl ?_
      show Steps p.tables e below (s₁.setTop (mkF m 7 #[.val (.long y1), .second, .val (.long y2), .second] [(.long y1)])) _
      refine XS.goto X0.here hx rfl (pc0 := 7) (pc' := 11) rfl (hb hby d3_7) (by decide) (by decide) ?_
      show Steps p.tables e below (s₁.setTop (mkF m 11 #[.val (.long y1), .second, .val (.long y2), .second] [(.long y1)])) _
      exact X0.lreturnOut hx Bd.returns (hb hby d3_11) hr
    · exact ⟨by rw [own_min_0, if_neg hc3], N0, rfl⟩
def own_len (f l m : Int64) : Int64 := if m = (0 : Int64) then f else own_min_0 ((2 : Int64) * m) l
theorem pd__28JJ_29J : parseMethodDescriptor "(JJ)J" = some ⟨[.long, .long], some .long⟩ := by decide +kernel
theorem d4_0 : decode prog_62_method_3_code 0 = .ok (.aload_n 0, 1) := by decide +kernel
theorem d4_1 : decode prog_62_method_3_code 1 = .ok (.aload_n 0, 1) := by decide +kernel
theorem d4_2 : decode prog_62_method_3_code 2 = .ok (.getfield 16, 3) := by decide +kernel
theorem d4_5 : decode prog_62_method_3_code 5 = .ok (.lconst 0, 1) := by decide +kernel
theorem d4_6 : decode prog_62_method_3_code 6 = .ok (.lcmp, 1) := by decide +kernel
theorem d4_7 : decode prog_62_method_3_code 7 = .ok (.ifCond .ne 10, 3) := by decide +kernel
theorem d4_10 : decode prog_62_method_3_code 10 = .ok (.aload_n 0, 1) := by decide +kernel
theorem d4_11 : decode prog_62_method_3_code 11 = .ok (.getfield 7, 3) := by decide +kernel
theorem d4_14 : decode prog_62_method_3_code 14 = .ok (.goto 18, 3) := by decide +kernel
theorem d4_17 : decode prog_62_method_3_code 17 = .ok (.ldc2_w 19, 3) := by decide +kernel
theorem d4_20 : decode prog_62_method_3_code 20 = .ok (.aload_n 0, 1) := by decide +kernel
theorem d4_21 : decode prog_62_method_3_code 21 = .ok (.getfield 16, 3) := by decide +kernel
theorem d4_24 : decode prog_62_method_3_code 24 = .ok (.lmul, 1) := by decide +kernel
theorem d4_25 : decode prog_62_method_3_code 25 = .ok (.aload_n 0, 1) := by decide +kernel
theorem d4_26 : decode prog_62_method_3_code 26 = .ok (.getfield 13, 3) := by decide +kernel
theorem d4_29 : decode prog_62_method_3_code 29 = .ok (.invokestatic 21, 3) := by decide +kernel
theorem d4_32 : decode prog_62_method_3_code 32 = .ok (.putfield 16, 3) := by decide +kernel
theorem d4_35 : decode prog_62_method_3_code 35 = .ok (.return_, 1) := by decide +kernel
theorem pn_4 : plainName "com/example/cicada/cicada/node/Backoff" = true := by first | (simp [plainName, overriddenIn]; done) | decide +kernel
theorem ef_4 (m : MethodId) (x0 : Addr) : entryFrame m #[(.ref x0)] 1 = mkF m 0 #[.val (.ref x0)] [] := by first | (simp [entryFrame, mkF, argsToLocals, Value.category]; done) | rfl
def Q4 (Z : State) (b1 : Addr) (y1 : Int64) (y2 : Int64) (y3 : Int64) (h0 : Heap) (n0 : Nat) (v : Option Value) (h : Heap) (L : List Loc) : Prop := v = none ∧ Fr n0 L ∧ Keep h0 h [b1] ∧ Exa Z h b1 "com/example/cicada/cicada/node/Backoff" ∧ Fld Z h b1 "com/example/cicada/cicada/node/Backoff" "firstMs" "J" (.long y1) ∧ Fld Z h b1 "com/example/cicada/cicada/node/Backoff" "lastMs" "J" (.long y2) ∧ Fld Z h b1 "com/example/cicada/cicada/node/Backoff" "ms" "J" (.long (own_len y1 y2 y3))
set_option maxRecDepth 65536 in
set_option maxHeartbeats 40000000 in
theorem rm4 (l : Launch) (Z : State) (a0 : Array Value) (hw : ∀ d ∈ tables_1, d.before a0 Z = true) (ws : List Jvm.Cond)  (b1 : Addr) (y1 : Int64) (y2 : Int64) (y3 : Int64) (h0 : Heap) (n0 : Nat) (Z0 : n0 ≤ h0.size) (F_firstMs : Fld Z h0 b1 "com/example/cicada/cicada/node/Backoff" "firstMs" "J" (.long y1)) (F_lastMs : Fld Z h0 b1 "com/example/cicada/cicada/node/Backoff" "lastMs" "J" (.long y2)) (F_ms : Fld Z h0 b1 "com/example/cicada/cicada/node/Backoff" "ms" "J" (.long y3)) (E_b1 : Exa Z h0 b1 "com/example/cicada/cicada/node/Backoff") (lo_b1 : n0 ≤ b1)  :
    MetFree l (⟨"com/example/cicada/cicada/node/Backoff", "lengthen", "()V"⟩ : MethodName) (head1 (Jvm.Cond.code (⟨"com/example/cicada/cicada/node/Backoff", "lengthen", "()V"⟩ : MethodName) prog_62_method_3_code 1 none :: ws) ({ frames := 1, cells := 0, slots := 0, locals := 16 } : Room)) (fun a U => a = #[(.ref b1)] ∧ Z.Warmed39 U.vm ∧ U.heap = h0) (fun _ _ _ _ _ => True) (fun _ U o U' => ∃ v L, o = .returned v ∧ Q4 Z b1 y1 y2 y3 h0 n0 v U'.heap L ∧ FrameEnd U o U' L ({ frames := 1, cells := 0, slots := 0, locals := 16 } : Room).cells ({ frames := 1, cells := 0, slots := 0, locals := 16 } : Room).slots) := by
  refine MetFree.of_bodySF (plainFor_of_name pn_4) hisR ?_
  intro p e s m args below meth c s₁ Bd hml0 hP hK
  obtain ⟨rfl, hZ, hh⟩ := hP
  have hx := Bd.exec
  have hby := Bd.bytes
  have hml : c.maxLocals = 1 := hml0
  have hown : s.vm.findClass "com/example/cicada/cicada/node/Backoff" = some m.cls := findClass_of_methodNamed Bd.named
  have hnm := (name_of_methodNamed Bd.named Bd.method).1
  have X0 : Stand p l e ({ frames := 1, cells := 0, slots := 0, locals := 16 } : Room) s m #[(.ref b1)] below meth c s₁ [] 0 0 := Stand.of_body Bd
  have e0 : s₁.heap = h0 := by rw [← hh, Bd.state]; rfl
  have N0 := Fr.nil n0
  show own_Go p e below s (Q4 Z b1 y1 y2 y3 h0 n0) ({ frames := 1, cells := 0, slots := 0, locals := 16 } : Room).cells ({ frames := 1, cells := 0, slots := 0, locals := 16 } : Room).slots (s₁.setTop (entryFrame m #[(.ref b1)] 1))
  refine own_go (b := s₁.setTop (mkF m 0 #[.val (.ref b1)] [])) (fun t k => castTop (ef_4 m b1) k) ?_
  have K0 := Keep.refl h0 [b1]
  obtain ⟨T1, X1, e1, st1⟩ := getF X0 hx hZ hown (host := "") (Or.inl (hw _ (List.mem_of_getElem? (i := 19) rfl))) Via.refl e0 F_ms (g := (mkF m 2 #[.val (.ref b1)] [(.ref b1), (.ref b1)])) rfl rfl (hb hby d4_2)
  refine own_go (b := T1.setTop (mkF m 7 #[.val (.ref b1)] [(.int (lcmpW y3 (0 : Int64))), (.ref b1)])) (fun t k => ?_) ?_
  · show Steps p.tables e below (s₁.setTop (mkF m 0 #[.val (.ref b1)] [])) _
    refine XS.aloadN X0.here hx rfl (hb hby d4_0) rfl rfl ?_
    show Steps p.tables e below (s₁.setTop (mkF m 1 #[.val (.ref b1)] [(.ref b1)])) _
    refine XS.aloadN X0.here hx rfl (hb hby d4_1) rfl rfl ?_
    show Steps p.tables e below (s₁.setTop (mkF m 2 #[.val (.ref b1)] [(.ref b1), (.ref b1)])) _
    refine st1 _ ?_
    show Steps p.tables e below (T1.setTop (mkF m 5 #[.val (.ref b1)] [(.long y3), (.ref b1)])) _
    refine XS.lconst X1.here hx rfl (hb hby d4_5) ?_
    show Steps p.tables e below (T1.setTop (mkF m 6 #[.val (.ref b1)] [(.long (0 : Int64)), (.long y3), (.ref b1)])) _
    refine XS.lcmp X1.here hx rfl (hb hby d4_6) rfl ?_
    show Steps p.tables e below (T1.setTop (mkF m 7 #[.val (.ref b1)] [(.int (lcmpW y3 (0 : Int64))), (.ref b1)])) _
    exact k
  by_cases hc7 : y3 = (0 : Int64)
  · obtain ⟨T2, X2, e2, st2⟩ := getF X1 hx hZ hown (host := "") (Or.inl (hw _ (List.mem_of_getElem? (i := 10) rfl))) Via.refl e1 F_firstMs (g := (mkF m 11 #[.val (.ref b1)] [(.ref b1), (.ref b1)])) rfl rfl (hb hby d4_11)
    obtain ⟨T3, h3, X3, e3, W3, st3⟩ := putF X2 hx hZ hown (host := "") (Or.inl (hw _ (List.mem_of_getElem? (i := 19) rfl))) Via.refl e2 F_ms E_b1 (Or.inl (hw _ (List.mem_of_getElem? (i := 20) rfl))) (hw _ (List.mem_of_getElem? (i := 2) rfl)) (ty := .long) (by decide) rfl rfl (g := (mkF m 32 #[.val (.ref b1)] [(.long y1), (.ref b1)])) rfl rfl (hb hby d4_32)
    have N3 := Fr.snoc X3 N0 lo_b1
    have K3 := K0.wr W3 (Or.inl (List.mem_of_getElem? (i := 0) rfl))
    have F4 : Fld Z h3 b1 "com/example/cicada/cicada/node/Backoff" "ms" "J" (.long y1) := F_ms.same W3
    have F5 := F_firstMs.other W3 (Or.inr (slot_ne (Or.inr (hw _ (List.mem_of_getElem? (i := 11) rfl))) (Or.inl (hw _ (List.mem_of_getElem? (i := 20) rfl))) (by decide) (t := .long) (t' := .long) (by decide) (by decide)))
    have F6 := F_lastMs.other W3 (Or.inr (slot_ne (Or.inr (hw _ (List.mem_of_getElem? (i := 13) rfl))) (Or.inl (hw _ (List.mem_of_getElem? (i := 20) rfl))) (by decide) (t := .long) (t' := .long) (by decide) (by decide)))
    have E7 := E_b1.wr W3
    have Z3 : n0 ≤ h3.size := by rw [W3.size]; exact Z0
    refine own_end X3 Bd.notSynchronized (v := none) (fun _ => rfl) (fun fs hr => ?_) e3 ?_ (by decide) (by decide)
    · show Steps p.tables e below (T1.setTop (mkF m 7 #[.val (.ref b1)] [(.int (lcmpW y3 (0 : Int64))), (.ref b1)])) _
      refine XS.ifNo X1.here hx rfl (hb hby d4_7) rfl ((if0 _ _).trans (teq ((lw_eq y3 (0 : Int64)).mpr hc7)).2) ?_
      show Steps p.tables e below (T1.setTop (mkF m 10 #[.val (.ref b1)] [(.ref b1)])) _
      refine XS.aloadN X1.here hx rfl (hb hby d4_10) rfl rfl ?_
      show Steps p.tables e below (T1.setTop (mkF m 11 #[.val (.ref b1)] [(.ref b1), (.ref b1)])) _
      refine st2 _ ?_
      show Steps p.tables e below (T2.setTop (mkF m 14 #[.val (.ref b1)] [(.long y1), (.ref b1)])) _
      refine XS.goto X2.here hx rfl (pc0 := 14) (pc' := 32) rfl (hb hby d4_14) (by decide) (by decide) ?_
      show Steps p.tables e below (T2.setTop (mkF m 32 #[.val (.ref b1)] [(.long y1), (.ref b1)])) _
      refine st3 _ ?_
      show Steps p.tables e below (T3.setTop (mkF m 35 #[.val (.ref b1)] [])) _
      exact X3.returnOut hx Bd.returns (hb hby d4_35) hr
    · exact ⟨rfl, N3, K3, E7, F5, F6, (by rw [own_len, if_pos hc7]; exact F4)⟩
  · obtain ⟨T8, X8, e8, st8⟩ := getF X1 hx hZ hown (host := "") (Or.inl (hw _ (List.mem_of_getElem? (i := 19) rfl))) Via.refl e1 F_ms (g := (mkF m 21 #[.val (.ref b1)] [(.ref b1), (.long (2 : Int64)), (.ref b1)])) rfl rfl (hb hby d4_21)
    obtain ⟨T9, X9, e9, st9⟩ := getF X8 hx hZ hown (host := "") (Or.inl (hw _ (List.mem_of_getElem? (i := 12) rfl))) Via.refl e8 F_lastMs (g := (mkF m 26 #[.val (.ref b1)] [(.ref b1), (.long ((2 : Int64) * y3)), (.ref b1)])) rfl rfl (hb hby d4_26)
    obtain ⟨_, _, ⟨T10, uL10, uk10, un10⟩, -, X10, ⟨Lc10, hQ10, ul10, uy10, uz10⟩, st10⟩ := Jvm.LawKit.callS X9 hx (y := (⟨"java/lang/Math", "min", "(JJ)J"⟩ : MethodName)) hown (mvT hZ (hw _ (List.mem_of_getElem? (i := 31) rfl))) (mvT hZ (hw _ (List.mem_of_getElem? (i := 27) rfl))) (mvT hZ (hw _ (List.mem_of_getElem? (i := 28) rfl))) (mvT hZ (hw _ (List.mem_of_getElem? (i := 29) rfl))) (by decide) (backOf (W := 1) (rm3 l Z a0 hw [] ((2 : Int64) * y3) y2 h0 n0 Z0 ) hZ (hw _ (List.mem_of_getElem? (i := 29) rfl)) (hw _ (List.mem_of_getElem? (i := 28) rfl)) (by decide) (by decide)) (g := (mkF m 29 #[.val (.ref b1)] [(.long y2), (.long ((2 : Int64) * y3)), (.ref b1)])) rfl (by rw [hml]; rfl) (argsL := [(.long ((2 : Int64) * y3)), (.long y2)]) (rest := [(.ref b1)]) (lenOf pd__28JJ_29J rfl) rfl (by show 2 * 0 + _ ≤ _; exact Nat.le_of_eq rfl) (hb hby d4_29) (fun _ _ => ⟨rfl, e9, (by decide : 0 + 0 ≤ _), (by decide : 0 + 0 ≤ _)⟩)
    dsimp only [Pt.U, Pt.locs, Pt.cells, Pt.slots] at X10 ul10 uy10 uz10 st10 hQ10
    subst ul10 uy10 uz10
    obtain ⟨rfl, Nq10, e10⟩ := hQ10
    have N10 := Fr.app N0 Nq10
    obtain ⟨T11, h11, X11, e11, W11, st11⟩ := putF X10 hx hZ hown (host := "") (Or.inl (hw _ (List.mem_of_getElem? (i := 19) rfl))) Via.refl e10 F_ms E_b1 (Or.inl (hw _ (List.mem_of_getElem? (i := 20) rfl))) (hw _ (List.mem_of_getElem? (i := 2) rfl)) (ty := .long) (by decide) rfl rfl (g := (mkF m 32 #[.val (.ref b1)] [(.long (own_min_0 ((2 : Int64) * y3) y2)), (.ref b1)])) rfl rfl (hb hby d4_32)
    have N11 := Fr.snoc X11 N10 lo_b1
    have K11 := K0.wr W11 (Or.inl (List.mem_of_getElem? (i := 0) rfl))
    have F12 : Fld Z h11 b1 "com/example/cicada/cicada/node/Backoff" "ms" "J" (.long (own_min_0 ((2 : Int64) * y3) y2)) := F_ms.same W11
    have F13 := F_firstMs.other W11 (Or.inr (slot_ne (Or.inr (hw _ (List.mem_of_getElem? (i := 11) rfl))) (Or.inl (hw _ (List.mem_of_getElem? (i := 20) rfl))) (by decide) (t := .long) (t' := .long) (by decide) (by decide)))
    have F14 := F_lastMs.other W11 (Or.inr (slot_ne (Or.inr (hw _ (List.mem_of_getElem? (i := 13) rfl))) (Or.inl (hw _ (List.mem_of_getElem? (i := 20) rfl))) (by decide) (t := .long) (t' := .long) (by decide) (by decide)))
    have E15 := E_b1.wr W11
    have Z11 : n0 ≤ h11.size := by rw [W11.size]; exact Z0
    refine own_end X11 Bd.notSynchronized (v := none) (fun _ => rfl) (fun fs hr => ?_) e11 ?_ (by decide) (by decide)
    · show Steps p.tables e below (T1.setTop (mkF m 7 #[.val (.ref b1)] [(.int (lcmpW y3 (0 : Int64))), (.ref b1)])) _
      refine XS.ifYes X1.here hx rfl (pc0 := 7) (pc' := 17) rfl (hb hby d4_7) rfl ((if0 _ _).trans (feq (fun q => hc7 ((lw_eq y3 (0 : Int64)).mp q))).2) (by decide) (by decide) ?_
      show Steps p.tables e below (T1.setTop (mkF m 17 #[.val (.ref b1)] [(.ref b1)])) _
      refine X1.ldc2J hx hown (mvT hZ (hw _ (List.mem_of_getElem? (i := 30) rfl))) rfl (hb hby d4_17) ?_
      show Steps p.tables e below (T1.setTop (mkF m 20 #[.val (.ref b1)] [(.long (2 : Int64)), (.ref b1)])) _
      refine XS.aloadN X1.here hx rfl (hb hby d4_20) rfl rfl ?_
      show Steps p.tables e below (T1.setTop (mkF m 21 #[.val (.ref b1)] [(.ref b1), (.long (2 : Int64)), (.ref b1)])) _
      refine st8 _ ?_
      show Steps p.tables e below (T8.setTop (mkF m 24 #[.val (.ref b1)] [(.long y3), (.long (2 : Int64)), (.ref b1)])) _
      refine XS.lmul X8.here hx rfl (hb hby d4_24) rfl ?_
      show Steps p.tables e below (T8.setTop (mkF m 25 #[.val (.ref b1)] [(.long ((2 : Int64) * y3)), (.ref b1)])) _
      refine XS.aloadN X8.here hx rfl (hb hby d4_25) rfl rfl ?_
      show Steps p.tables e below (T8.setTop (mkF m 26 #[.val (.ref b1)] [(.ref b1), (.long ((2 : Int64) * y3)), (.ref b1)])) _
      refine st9 _ ?_
      show Steps p.tables e below (T9.setTop (mkF m 29 #[.val (.ref b1)] [(.long y2), (.long ((2 : Int64) * y3)), (.ref b1)])) _
      refine st10 _ ?_
      show Steps p.tables e below (T10.setTop (mkF m 32 #[.val (.ref b1)] [(.long (own_min_0 ((2 : Int64) * y3) y2)), (.ref b1)])) _
      refine st11 _ ?_
      show Steps p.tables e below (T11.setTop (mkF m 35 #[.val (.ref b1)] [])) _
      exact X11.returnOut hx Bd.returns (hb hby d4_35) hr
    · exact ⟨rfl, N11, K11, E15, F13, F14, (by rw [own_len, if_neg hc7]; exact F12)⟩
theorem own_mask (x : Int64) : 0 ≤ (x &&& (288230376151711743 : Int64)).toInt ∧ (x &&& (288230376151711743 : Int64)).toInt < 288230376151711744 := by
  rw [Jvm.Kit.i64_mask x 288230376151711743 (k := 58) (by decide) (by decide)]; omega
theorem own_lst {f g : Int64} (h1 : 0 ≤ f.toInt ∧ f.toInt < 288230376151711744) (h2 : 0 ≤ g.toInt ∧ g.toInt < 288230376151711744) : f.toInt ≤ (f + g).toInt ∧ (f + g).toInt < 576460752303423488 := by
  rw [Jvm.Kit.i64_add (by omega) (by omega)]; omega
theorem own_minI (a b : Int64) : (own_min_0 a b).toInt = if b.toInt < a.toInt then b.toInt else a.toInt := by
  rw [own_min_0]
  by_cases h : b < a
  · rw [if_pos h, if_pos (Int64.lt_iff_toInt_lt.mp h)]
  · rw [if_neg h, if_neg (fun q => h (Int64.lt_iff_toInt_lt.mpr q))]
theorem own_mulI (f k : Int64) (n : Int) (hk : k.toInt = n) (h1 : -2 ^ 63 ≤ f.toInt * n) (h2 : f.toInt * n < 2 ^ 63) : (f * k).toInt = f.toInt * n := by
  rw [Jvm.Kit.i64_mul (by rw [hk]; exact h1) (by rw [hk]; exact h2), hk]
theorem own_lenI {f l m : Int64} (h1 : 0 ≤ m.toInt) (h2 : m.toInt < 2 ^ 60) : (own_len f l m).toInt = if m.toInt = 0 then f.toInt else if l.toInt < 2 * m.toInt then l.toInt else 2 * m.toInt := by
  have e2 : (2 : Int64).toInt = 2 := rfl
  rw [own_len]
  by_cases h : m = (0 : Int64)
  · rw [if_pos h, if_pos (by rw [h]; rfl)]
  · rw [if_neg h, if_neg (fun q => h (Int64.toInt_inj.mp (by rw [q]; rfl))), own_minI, Jvm.Kit.i64_mul (by rw [e2]; omega) (by rw [e2]; omega), e2]
theorem own_all {f l m1 m2 m3 m4 : Int64} (hf : 0 ≤ f.toInt ∧ f.toInt < 288230376151711744) (hl : f.toInt ≤ l.toInt ∧ l.toInt < 576460752303423488) (h1 : m1 = own_len f l (0 : Int64)) (h2 : m2 = own_len f l m1) (h3 : m3 = own_len f l m2) (h4 : m4 = own_len f l m3) :
    own_ms_0 m1 = own_min_0 f l ∧ own_ms_0 m2 = own_min_0 (f * (2 : Int64)) l ∧ own_ms_0 m3 = own_min_0 (f * (4 : Int64)) l ∧ own_ms_0 m4 = own_min_0 (f * (8 : Int64)) l := by
  have e0 : (0 : Int64).toInt = 0 := rfl
  have k1 : m1.toInt = f.toInt := by rw [h1, own_lenI (by decide) (by decide), if_pos e0]
  have k2 : m2.toInt = if m1.toInt = 0 then f.toInt else if l.toInt < 2 * m1.toInt then l.toInt else 2 * m1.toInt := by rw [h2, own_lenI (by omega) (by omega)]
  have b2 : 0 ≤ m2.toInt ∧ m2.toInt < 576460752303423488 := by rw [k2]; split <;> (try split) <;> omega
  have k3 : m3.toInt = if m2.toInt = 0 then f.toInt else if l.toInt < 2 * m2.toInt then l.toInt else 2 * m2.toInt := by rw [h3, own_lenI (by omega) (by omega)]
  have b3 : 0 ≤ m3.toInt ∧ m3.toInt < 576460752303423488 := by rw [k3]; split <;> (try split) <;> omega
  have k4 : m4.toInt = if m3.toInt = 0 then f.toInt else if l.toInt < 2 * m3.toInt then l.toInt else 2 * m3.toInt := by rw [h4, own_lenI (by omega) (by omega)]
  have w2 := own_mulI f (2 : Int64) 2 rfl (by omega) (by omega)
  have w4 := own_mulI f (4 : Int64) 4 rfl (by omega) (by omega)
  have w8 := own_mulI f (8 : Int64) 8 rfl (by omega) (by omega)
  refine ⟨Int64.toInt_inj.mp ?_, Int64.toInt_inj.mp ?_, Int64.toInt_inj.mp ?_, Int64.toInt_inj.mp ?_⟩
  · rw [own_ms_0, own_minI, k1]; split <;> omega
  · rw [own_ms_0, own_minI, w2]
    split at k2 <;> (try split at k2) <;> split <;> omega
  · rw [own_ms_0, own_minI, w4]
    split at k2 <;> (try split at k2) <;> split at k3 <;> (try split at k3) <;> split <;> omega
  · rw [own_ms_0, own_minI, w8]
    split at k2 <;> (try split at k2) <;> split at k3 <;> (try split at k3) <;> split at k4 <;> (try split at k4) <;> split <;> omega
theorem own_e1 {f l m1 : Int64} (hf : 0 ≤ f.toInt ∧ f.toInt < 288230376151711744) (hl : f.toInt ≤ l.toInt ∧ l.toInt < 576460752303423488) (h1 : m1 = own_len f l (0 : Int64)) : own_ms_0 m1 = own_min_0 f l := (own_all hf hl h1 rfl rfl rfl).1
theorem own_e2 {f l m1 m2 : Int64} (hf : 0 ≤ f.toInt ∧ f.toInt < 288230376151711744) (hl : f.toInt ≤ l.toInt ∧ l.toInt < 576460752303423488) (h1 : m1 = own_len f l (0 : Int64)) (h2 : m2 = own_len f l m1) : own_ms_0 m2 = own_min_0 (f * (2 : Int64)) l := (own_all hf hl h1 h2 rfl rfl).2.1
theorem own_e3 {f l m1 m2 m3 : Int64} (hf : 0 ≤ f.toInt ∧ f.toInt < 288230376151711744) (hl : f.toInt ≤ l.toInt ∧ l.toInt < 576460752303423488) (h1 : m1 = own_len f l (0 : Int64)) (h2 : m2 = own_len f l m1) (h3 : m3 = own_len f l m2) : own_ms_0 m3 = own_min_0 (f * (4 : Int64)) l := (own_all hf hl h1 h2 h3 rfl).2.2.1
theorem pd__28JJ_29V : parseMethodDescriptor "(JJ)V" = some ⟨[.long, .long], none⟩ := by decide +kernel
theorem pd__28_29J : parseMethodDescriptor "()J" = some ⟨[], some .long⟩ := by decide +kernel
theorem pd__28_29V : parseMethodDescriptor "()V" = some ⟨[], none⟩ := by decide +kernel
theorem pn_0 : plainName "com/example/cicada/cicada/node/BackoffLengthenPinLaw" = true := by first | (simp [plainName, overriddenIn]; done) | decide +kernel
theorem ef_0 (m : MethodId) (x0 : Int64) (x1 : Int64) : entryFrame m #[(.long x0), (.long x1)] maxLocals = mkF m 0 #[.val (.long x0), .second, .val (.long x1), .second, .unset, .unset, .unset, .unset, .unset, .unset] [] := by first | (simp [entryFrame, mkF, argsToLocals, Value.category, maxLocals]; done) | rfl
def Q0 (p1 : Int64) (p2 : Int64) (h0 : Heap) (n0 : Nat) (v : Option Value) (h : Heap) (L : List Loc) : Prop := v = some (.int 1) ∧ Fr n0 L
set_option maxRecDepth 65536 in
set_option maxHeartbeats 40000000 in
theorem rm0 (l : Launch) (Z : State) (a0 : Array Value) (hw : ∀ d ∈ tables_1, d.before a0 Z = true) (ws : List Jvm.Cond) (p1 : Int64) (p2 : Int64) (h0 : Heap) (n0 : Nat) (Z0 : n0 ≤ h0.size)  :
    MetFree l x (head1 (Jvm.Cond.code x code maxLocals ret :: ws) room_1) (fun a U => a = #[(.long p1), (.long p2)] ∧ Z.Warmed39 U.vm ∧ U.heap = h0) (fun _ _ _ _ _ => True) (fun _ U o U' => ∃ v L, o = .returned v ∧ Q0 p1 p2 h0 n0 v U'.heap L ∧ FrameEnd U o U' L 16 128) := by
  refine MetFree.of_bodySF (plainFor_of_name pn_0) hisR ?_
  intro p e s m args below meth c s₁ Bd hml0 hP hK
  obtain ⟨rfl, hZ, hh⟩ := hP
  have hx := Bd.exec
  have hby := Bd.bytes
  have hml : c.maxLocals = 10 := hml0
  have hown : s.vm.findClass "com/example/cicada/cicada/node/BackoffLengthenPinLaw" = some m.cls := findClass_of_methodNamed Bd.named
  have hnm := (name_of_methodNamed Bd.named Bd.method).1
  have X0 : Stand p l e room_1 s m #[(.long p1), (.long p2)] below meth c s₁ [] 0 0 := Stand.of_body Bd
  have e0 : s₁.heap = h0 := by rw [← hh, Bd.state]; rfl
  have N0 := Fr.nil n0
  show own_Go p e below s (Q0 p1 p2 h0 n0) 16 128 (s₁.setTop (entryFrame m #[(.long p1), (.long p2)] maxLocals))
  refine own_go (b := s₁.setTop (mkF m 0 #[.val (.long p1), .second, .val (.long p2), .second, .unset, .unset, .unset, .unset, .unset, .unset] [])) (fun t k => castTop (ef_0 m p1 p2) k) ?_
  refine own_go (b := s₁.setTop (mkF m 7 #[.val (.long p1), .second, .val (.long p2), .second, .val (.long (p1 &&& (288230376151711743 : Int64))), .second, .unset, .unset, .unset, .unset] [])) (fun t k => ?_) ?_
  · show Steps p.tables e below (s₁.setTop (mkF m 0 #[.val (.long p1), .second, .val (.long p2), .second, .unset, .unset, .unset, .unset, .unset, .unset] [])) _
    refine XS.lloadN X0.here hx rfl (hb hby at_0) rfl ?_
    show Steps p.tables e below (s₁.setTop (mkF m 1 #[.val (.long p1), .second, .val (.long p2), .second, .unset, .unset, .unset, .unset, .unset, .unset] [(.long p1)])) _
    refine X0.ldc2J hx hown (mvT hZ (hw _ (List.mem_of_getElem? (i := 0) rfl))) rfl (hb hby at_1) ?_
    show Steps p.tables e below (s₁.setTop (mkF m 4 #[.val (.long p1), .second, .val (.long p2), .second, .unset, .unset, .unset, .unset, .unset, .unset] [(.long (288230376151711743 : Int64)), (.long p1)])) _
    refine XS.land X0.here hx rfl (hb hby at_4) rfl ?_
    show Steps p.tables e below (s₁.setTop (mkF m 5 #[.val (.long p1), .second, .val (.long p2), .second, .unset, .unset, .unset, .unset, .unset, .unset] [(.long (p1 &&& (288230376151711743 : Int64)))])) _
    refine XS.lstore X0.here hx rfl (hb hby at_5) rfl (l' := #[.val (.long p1), .second, .val (.long p2), .second, .val (.long (p1 &&& (288230376151711743 : Int64))), .second, .unset, .unset, .unset, .unset]) rfl ?_
    show Steps p.tables e below (s₁.setTop (mkF m 7 #[.val (.long p1), .second, .val (.long p2), .second, .val (.long (p1 &&& (288230376151711743 : Int64))), .second, .unset, .unset, .unset, .unset] [])) _
    exact k
  obtain ⟨nf, hnf⟩ : ∃ z : Int64, z = (p1 &&& (288230376151711743 : Int64)) := ⟨_, rfl⟩
  rw [← hnf]
  have q1 := own_mask p1
  rw [← hnf] at q1
  refine own_go (b := s₁.setTop (mkF m 17 #[.val (.long p1), .second, .val (.long p2), .second, .val (.long nf), .second, .val (.long (nf + (p2 &&& (288230376151711743 : Int64)))), .second, .unset, .unset] [])) (fun t k => ?_) ?_
  · show Steps p.tables e below (s₁.setTop (mkF m 7 #[.val (.long p1), .second, .val (.long p2), .second, .val (.long nf), .second, .unset, .unset, .unset, .unset] [])) _
    refine XS.lload X0.here hx rfl (hb hby at_7) rfl ?_
    show Steps p.tables e below (s₁.setTop (mkF m 9 #[.val (.long p1), .second, .val (.long p2), .second, .val (.long nf), .second, .unset, .unset, .unset, .unset] [(.long nf)])) _
    refine XS.lloadN X0.here hx rfl (hb hby at_9) rfl ?_
    show Steps p.tables e below (s₁.setTop (mkF m 10 #[.val (.long p1), .second, .val (.long p2), .second, .val (.long nf), .second, .unset, .unset, .unset, .unset] [(.long p2), (.long nf)])) _
    refine X0.ldc2J hx hown (mvT hZ (hw _ (List.mem_of_getElem? (i := 0) rfl))) rfl (hb hby at_10) ?_
    show Steps p.tables e below (s₁.setTop (mkF m 13 #[.val (.long p1), .second, .val (.long p2), .second, .val (.long nf), .second, .unset, .unset, .unset, .unset] [(.long (288230376151711743 : Int64)), (.long p2), (.long nf)])) _
    refine XS.land X0.here hx rfl (hb hby at_13) rfl ?_
    show Steps p.tables e below (s₁.setTop (mkF m 14 #[.val (.long p1), .second, .val (.long p2), .second, .val (.long nf), .second, .unset, .unset, .unset, .unset] [(.long (p2 &&& (288230376151711743 : Int64))), (.long nf)])) _
    refine XS.ladd X0.here hx rfl (hb hby at_14) rfl ?_
    show Steps p.tables e below (s₁.setTop (mkF m 15 #[.val (.long p1), .second, .val (.long p2), .second, .val (.long nf), .second, .unset, .unset, .unset, .unset] [(.long (nf + (p2 &&& (288230376151711743 : Int64))))])) _
    refine XS.lstore X0.here hx rfl (hb hby at_15) rfl (l' := #[.val (.long p1), .second, .val (.long p2), .second, .val (.long nf), .second, .val (.long (nf + (p2 &&& (288230376151711743 : Int64)))), .second, .unset, .unset]) rfl ?_
    show Steps p.tables e below (s₁.setTop (mkF m 17 #[.val (.long p1), .second, .val (.long p2), .second, .val (.long nf), .second, .val (.long (nf + (p2 &&& (288230376151711743 : Int64)))), .second, .unset, .unset] [])) _
    exact k
  obtain ⟨nl, hnl⟩ : ∃ z : Int64, z = (nf + (p2 &&& (288230376151711743 : Int64))) := ⟨_, rfl⟩
  rw [← hnl]
  have q2 : nf.toInt ≤ nl.toInt ∧ nl.toInt < 576460752303423488 := by rw [hnl]; exact own_lst q1 (own_mask p2)
  obtain ⟨T1, h1, X1, e1, E1, A1, D1, -, st1⟩ := newO X0 hx hZ hown (hw _ (List.mem_of_getElem? (i := 1) rfl)) (hw _ (List.mem_of_getElem? (i := 2) rfl)) (hw _ (List.mem_of_getElem? (i := 3) rfl)) e0 (g := (mkF m 17 #[.val (.long p1), .second, .val (.long p2), .second, .val (.long nf), .second, .val (.long nl), .second, .unset, .unset] [])) rfl (hb hby at_17) (by decide) (by decide)
  obtain ⟨a1, ga1⟩ : ∃ z, z = h0.size := ⟨_, rfl⟩
  rw [← ga1] at A1 D1 st1
  have lo1 : n0 ≤ a1 := Nat.le_trans Z0 (Nat.le_of_eq ga1.symm)
  have Z1 : n0 ≤ h1.size := Nat.le_trans Z0 E1.1
  have F2 : Fld Z h1 a1 "com/example/cicada/cicada/node/Backoff" "firstMs" "J" (.long (0 : Int64)) := D1 (Or.inr (hw _ (List.mem_of_getElem? (i := 11) rfl))) (ty := .long) (by decide)
  have F3 : Fld Z h1 a1 "com/example/cicada/cicada/node/Backoff" "lastMs" "J" (.long (0 : Int64)) := D1 (Or.inr (hw _ (List.mem_of_getElem? (i := 13) rfl))) (ty := .long) (by decide)
  have F4 : Fld Z h1 a1 "com/example/cicada/cicada/node/Backoff" "ms" "J" (.long (0 : Int64)) := D1 (Or.inl (hw _ (List.mem_of_getElem? (i := 20) rfl))) (ty := .long) (by decide)
  obtain ⟨_, _, ⟨T5, uL5, uk5, un5⟩, -, X5, ⟨Lc5, hQ5, ul5, uy5, uz5⟩, st5⟩ := X1.specialBack hx (y := (⟨"com/example/cicada/cicada/node/Backoff", "<init>", "(JJ)V"⟩ : MethodName)) rfl hown (mvT hZ (hw _ (List.mem_of_getElem? (i := 4) rfl))) (mvT hZ (hw _ (List.mem_of_getElem? (i := 5) rfl))) (mvT hZ (hw _ (List.mem_of_getElem? (i := 6) rfl))) (by decide) (backOf (W := 1) (rm1 l Z a0 hw [] a1 nf nl h1 n0 Z1 F2 F3 F4 A1 lo1 ) hZ (hw _ (List.mem_of_getElem? (i := 6) rfl)) (hw _ (List.mem_of_getElem? (i := 3) rfl)) (by decide) (by decide)) (g := (mkF m 25 #[.val (.long p1), .second, .val (.long p2), .second, .val (.long nf), .second, .val (.long nl), .second, .unset, .unset] [(.long nl), (.long nf), (.ref a1), (.ref a1)])) rfl (by rw [hml]; rfl) (Steps.refl _) (a := a1) (argsL := [(.long nf), (.long nl)]) (rest := [(.ref a1)]) (lenOf pd__28JJ_29V rfl) rfl (by show 2 * 0 + _ ≤ _; exact Nat.le_of_eq rfl) (hb hby at_25) (fun _ _ => ⟨rfl, e1, (by decide : 1 + 0 ≤ _), (by decide : 3 + 0 ≤ _)⟩)
  dsimp only [Pt.U, Pt.locs, Pt.cells, Pt.slots] at X5 ul5 uy5 uz5 st5 hQ5
  subst ul5 uy5 uz5
  obtain ⟨rfl, Nq5, K5, Ea5, Fa5_firstMs, Fa5_lastMs, Fa5_ms⟩ := hQ5
  have Z5 : n0 ≤ T5.heap.size := Nat.le_trans Z1 K5.1
  have N5 := Fr.app N0 Nq5
  obtain ⟨cq6, kq6, qa6, qb6, qc6⟩ := isOf hZ rfl Ea5
  obtain ⟨_, _, ⟨T6, uL6, uk6, un6⟩, -, X6, ⟨Lc6, hQ6, ul6, uy6, uz6⟩, st6⟩ := X5.virtualBack hx (y := (⟨"com/example/cicada/cicada/node/Backoff", "ms", "()J"⟩ : MethodName)) (z := (⟨"com/example/cicada/cicada/node/Backoff", "ms", "()J"⟩ : MethodName)) hown (mvT hZ (hw _ (List.mem_of_getElem? (i := 14) rfl))) (mvT hZ (hw _ (List.mem_of_getElem? (i := 15) rfl))) (notFace_of_selects (args := #[]) (mvT hZ (hw _ (List.mem_of_getElem? (i := 17) rfl)))) (mvT hZ (hw _ (List.mem_of_getElem? (i := 17) rfl))) (mvT hZ (hw _ (List.mem_of_getElem? (i := 16) rfl))) (by decide) (backOf (W := 0) (rm2 l Z a0 hw [] a1 (0 : Int64) T5.heap n0 Z5 Fa5_ms) hZ (hw _ (List.mem_of_getElem? (i := 18) rfl)) (hw _ (List.mem_of_getElem? (i := 3) rfl)) (by decide) (by decide)) qa6 qc6 (g := (mkF m 32 #[.val (.long p1), .second, .val (.long p2), .second, .val (.long nf), .second, .val (.long nl), .second, .val (.ref a1), .unset] [(.ref a1)])) rfl (by rw [hml]; rfl) (Steps.refl _) (argsL := []) (rest := []) (lenOf pd__28_29J rfl) rfl (by show 2 * 0 + _ ≤ _; exact Nat.le_of_eq rfl) (hb hby at_32) (fun _ _ => ⟨rfl, rfl, (by decide : 1 + 0 ≤ _), (by decide : 3 + 0 ≤ _)⟩)
  dsimp only [Pt.U, Pt.locs, Pt.cells, Pt.slots] at X6 ul6 uy6 uz6 st6 hQ6
  subst ul6 uy6 uz6
  obtain ⟨rfl, Nq6, e6⟩ := hQ6
  have N6 := Fr.app N5 Nq6
  have hc37_7 : (own_ms_0 (0 : Int64)) = (0 : Int64) := rfl
  obtain ⟨cq8, kq8, qa8, qb8, qc8⟩ := isOf hZ e6 Ea5
  obtain ⟨_, _, ⟨T8, uL8, uk8, un8⟩, -, X8, ⟨Lc8, hQ8, ul8, uy8, uz8⟩, st8⟩ := X6.virtualBack hx (y := (⟨"com/example/cicada/cicada/node/Backoff", "lengthen", "()V"⟩ : MethodName)) (z := (⟨"com/example/cicada/cicada/node/Backoff", "lengthen", "()V"⟩ : MethodName)) hown (mvT hZ (hw _ (List.mem_of_getElem? (i := 21) rfl))) (mvT hZ (hw _ (List.mem_of_getElem? (i := 22) rfl))) (notFace_of_selects (args := #[]) (mvT hZ (hw _ (List.mem_of_getElem? (i := 24) rfl)))) (mvT hZ (hw _ (List.mem_of_getElem? (i := 24) rfl))) (mvT hZ (hw _ (List.mem_of_getElem? (i := 23) rfl))) (by decide) (backOf (W := 0) (rm4 l Z a0 hw [] a1 nf nl (0 : Int64) T5.heap n0 Z5 Fa5_firstMs Fa5_lastMs Fa5_ms Ea5 lo1 ) hZ (hw _ (List.mem_of_getElem? (i := 25) rfl)) (hw _ (List.mem_of_getElem? (i := 3) rfl)) (by decide) (by decide)) qa8 qc8 (g := (mkF m 49 #[.val (.long p1), .second, .val (.long p2), .second, .val (.long nf), .second, .val (.long nl), .second, .val (.ref a1), .val (.int (1 : Int32))] [(.ref a1)])) rfl (by rw [hml]; rfl) (Steps.refl _) (argsL := []) (rest := []) (lenOf pd__28_29V rfl) rfl (by show 2 * 0 + _ ≤ _; exact Nat.le_of_eq rfl) (hb hby at_49) (fun _ _ => ⟨rfl, e6, (by decide : 1 + 0 ≤ _), (by decide : 3 + 0 ≤ _)⟩)
  dsimp only [Pt.U, Pt.locs, Pt.cells, Pt.slots] at X8 ul8 uy8 uz8 st8 hQ8
  subst ul8 uy8 uz8
  obtain ⟨rfl, Nq8, K8, Ea8, Fa8_firstMs, Fa8_lastMs, Fa8_ms⟩ := hQ8
  have Z8 : n0 ≤ T8.heap.size := Nat.le_trans Z5 K8.1
  have N8 := Fr.app N6 Nq8
  refine own_go (b := T8.setTop (mkF m 52 #[.val (.long p1), .second, .val (.long p2), .second, .val (.long nf), .second, .val (.long nl), .second, .val (.ref a1), .val (.int (1 : Int32))] [])) (fun t k => ?_) ?_
  · show Steps p.tables e below (s₁.setTop (mkF m 17 #[.val (.long p1), .second, .val (.long p2), .second, .val (.long nf), .second, .val (.long nl), .second, .unset, .unset] [])) _
    refine st1 _ ?_
    show Steps p.tables e below (T1.setTop (mkF m 20 #[.val (.long p1), .second, .val (.long p2), .second, .val (.long nf), .second, .val (.long nl), .second, .unset, .unset] [(.ref a1)])) _
    refine XS.dup X1.here hx rfl (hb hby at_20) rfl rfl ?_
    show Steps p.tables e below (T1.setTop (mkF m 21 #[.val (.long p1), .second, .val (.long p2), .second, .val (.long nf), .second, .val (.long nl), .second, .unset, .unset] [(.ref a1), (.ref a1)])) _
    refine XS.lload X1.here hx rfl (hb hby at_21) rfl ?_
    show Steps p.tables e below (T1.setTop (mkF m 23 #[.val (.long p1), .second, .val (.long p2), .second, .val (.long nf), .second, .val (.long nl), .second, .unset, .unset] [(.long nf), (.ref a1), (.ref a1)])) _
    refine XS.lload X1.here hx rfl (hb hby at_23) rfl ?_
    show Steps p.tables e below (T1.setTop (mkF m 25 #[.val (.long p1), .second, .val (.long p2), .second, .val (.long nf), .second, .val (.long nl), .second, .unset, .unset] [(.long nl), (.long nf), (.ref a1), (.ref a1)])) _
    refine st5.trans ?_
    show Steps p.tables e below (T5.setTop (mkF m 28 #[.val (.long p1), .second, .val (.long p2), .second, .val (.long nf), .second, .val (.long nl), .second, .unset, .unset] [(.ref a1)])) _
    refine XS.astore X5.here hx rfl (hb hby at_28) rfl rfl (l' := #[.val (.long p1), .second, .val (.long p2), .second, .val (.long nf), .second, .val (.long nl), .second, .val (.ref a1), .unset]) rfl ?_
    show Steps p.tables e below (T5.setTop (mkF m 30 #[.val (.long p1), .second, .val (.long p2), .second, .val (.long nf), .second, .val (.long nl), .second, .val (.ref a1), .unset] [])) _
    refine XS.aload X5.here hx rfl (hb hby at_30) rfl rfl ?_
    show Steps p.tables e below (T5.setTop (mkF m 32 #[.val (.long p1), .second, .val (.long p2), .second, .val (.long nf), .second, .val (.long nl), .second, .val (.ref a1), .unset] [(.ref a1)])) _
    refine st6.trans ?_
    show Steps p.tables e below (T6.setTop (mkF m 35 #[.val (.long p1), .second, .val (.long p2), .second, .val (.long nf), .second, .val (.long nl), .second, .val (.ref a1), .unset] [(.long (own_ms_0 (0 : Int64)))])) _
    refine XS.lconst X6.here hx rfl (hb hby at_35) ?_
    show Steps p.tables e below (T6.setTop (mkF m 36 #[.val (.long p1), .second, .val (.long p2), .second, .val (.long nf), .second, .val (.long nl), .second, .val (.ref a1), .unset] [(.long (0 : Int64)), (.long (own_ms_0 (0 : Int64)))])) _
    refine XS.lcmp X6.here hx rfl (hb hby at_36) rfl ?_
    show Steps p.tables e below (T6.setTop (mkF m 37 #[.val (.long p1), .second, .val (.long p2), .second, .val (.long nf), .second, .val (.long nl), .second, .val (.ref a1), .unset] [(.int (lcmpW (own_ms_0 (0 : Int64)) (0 : Int64)))])) _
    refine XS.ifNo X6.here hx rfl (hb hby at_37) rfl ((if0 _ _).trans (teq ((lw_eq (own_ms_0 (0 : Int64)) (0 : Int64)).mpr hc37_7)).2) ?_
    show Steps p.tables e below (T6.setTop (mkF m 40 #[.val (.long p1), .second, .val (.long p2), .second, .val (.long nf), .second, .val (.long nl), .second, .val (.ref a1), .unset] [])) _
    refine XS.iconst X6.here hx rfl (hb hby at_40) ?_
    show Steps p.tables e below (T6.setTop (mkF m 41 #[.val (.long p1), .second, .val (.long p2), .second, .val (.long nf), .second, .val (.long nl), .second, .val (.ref a1), .unset] [(.int (1 : Int32))])) _
    refine XS.goto X6.here hx rfl (pc0 := 41) (pc' := 45) rfl (hb hby at_41) (by decide) (by decide) ?_
    show Steps p.tables e below (T6.setTop (mkF m 45 #[.val (.long p1), .second, .val (.long p2), .second, .val (.long nf), .second, .val (.long nl), .second, .val (.ref a1), .unset] [(.int (1 : Int32))])) _
    refine XS.istore X6.here hx rfl (hb hby at_45) rfl (l' := #[.val (.long p1), .second, .val (.long p2), .second, .val (.long nf), .second, .val (.long nl), .second, .val (.ref a1), .val (.int (1 : Int32))]) rfl ?_
    show Steps p.tables e below (T6.setTop (mkF m 47 #[.val (.long p1), .second, .val (.long p2), .second, .val (.long nf), .second, .val (.long nl), .second, .val (.ref a1), .val (.int (1 : Int32))] [])) _
    refine XS.aload X6.here hx rfl (hb hby at_47) rfl rfl ?_
    show Steps p.tables e below (T6.setTop (mkF m 49 #[.val (.long p1), .second, .val (.long p2), .second, .val (.long nf), .second, .val (.long nl), .second, .val (.ref a1), .val (.int (1 : Int32))] [(.ref a1)])) _
    refine st8.trans ?_
    show Steps p.tables e below (T8.setTop (mkF m 52 #[.val (.long p1), .second, .val (.long p2), .second, .val (.long nf), .second, .val (.long nl), .second, .val (.ref a1), .val (.int (1 : Int32))] [])) _
    exact k
  obtain ⟨m1, hm1⟩ : ∃ z : Int64, z = (own_len nf nl (0 : Int64)) := ⟨_, rfl⟩
  rw [← hm1] at Fa8_ms
  have hc54_9 : ¬ ((1 : Int32) = (0 : Int32)) := (by decide)
  obtain ⟨cq10, kq10, qa10, qb10, qc10⟩ := isOf hZ rfl Ea8
  obtain ⟨_, _, ⟨T10, uL10, uk10, un10⟩, -, X10, ⟨Lc10, hQ10, ul10, uy10, uz10⟩, st10⟩ := X8.virtualBack hx (y := (⟨"com/example/cicada/cicada/node/Backoff", "ms", "()J"⟩ : MethodName)) (z := (⟨"com/example/cicada/cicada/node/Backoff", "ms", "()J"⟩ : MethodName)) hown (mvT hZ (hw _ (List.mem_of_getElem? (i := 14) rfl))) (mvT hZ (hw _ (List.mem_of_getElem? (i := 15) rfl))) (notFace_of_selects (args := #[]) (mvT hZ (hw _ (List.mem_of_getElem? (i := 17) rfl)))) (mvT hZ (hw _ (List.mem_of_getElem? (i := 17) rfl))) (mvT hZ (hw _ (List.mem_of_getElem? (i := 16) rfl))) (by decide) (backOf (W := 0) (rm2 l Z a0 hw [] a1 m1 T8.heap n0 Z8 Fa8_ms) hZ (hw _ (List.mem_of_getElem? (i := 18) rfl)) (hw _ (List.mem_of_getElem? (i := 3) rfl)) (by decide) (by decide)) qa10 qc10 (g := (mkF m 59 #[.val (.long p1), .second, .val (.long p2), .second, .val (.long nf), .second, .val (.long nl), .second, .val (.ref a1), .val (.int (1 : Int32))] [(.ref a1)])) rfl (by rw [hml]; rfl) (Steps.refl _) (argsL := []) (rest := []) (lenOf pd__28_29J rfl) rfl (by show 2 * 0 + _ ≤ _; exact Nat.le_of_eq rfl) (hb hby at_59) (fun _ _ => ⟨rfl, rfl, (by decide : 1 + 0 ≤ _), (by decide : 3 + 0 ≤ _)⟩)
  dsimp only [Pt.U, Pt.locs, Pt.cells, Pt.slots] at X10 ul10 uy10 uz10 st10 hQ10
  subst ul10 uy10 uz10
  obtain ⟨rfl, Nq10, e10⟩ := hQ10
  have N10 := Fr.app N8 Nq10
  obtain ⟨_, _, ⟨T11, uL11, uk11, un11⟩, -, X11, ⟨Lc11, hQ11, ul11, uy11, uz11⟩, st11⟩ := Jvm.LawKit.callS X10 hx (y := (⟨"java/lang/Math", "min", "(JJ)J"⟩ : MethodName)) hown (mvT hZ (hw _ (List.mem_of_getElem? (i := 26) rfl))) (mvT hZ (hw _ (List.mem_of_getElem? (i := 27) rfl))) (mvT hZ (hw _ (List.mem_of_getElem? (i := 28) rfl))) (mvT hZ (hw _ (List.mem_of_getElem? (i := 29) rfl))) (by decide) (backOf (W := 2) (rm3 l Z a0 hw [] nf nl T8.heap n0 Z8 ) hZ (hw _ (List.mem_of_getElem? (i := 29) rfl)) (hw _ (List.mem_of_getElem? (i := 28) rfl)) (by decide) (by decide)) (g := (mkF m 66 #[.val (.long p1), .second, .val (.long p2), .second, .val (.long nf), .second, .val (.long nl), .second, .val (.ref a1), .val (.int (1 : Int32))] [(.long nl), (.long nf), (.long (own_ms_0 m1))])) rfl (by rw [hml]; rfl) (argsL := [(.long nf), (.long nl)]) (rest := [(.long (own_ms_0 m1))]) (lenOf pd__28JJ_29J rfl) rfl (by show 2 * 0 + _ ≤ _; exact Nat.le_of_eq rfl) (hb hby at_66) (fun _ _ => ⟨rfl, e10, (by decide : 1 + 0 ≤ _), (by decide : 3 + 0 ≤ _)⟩)
  dsimp only [Pt.U, Pt.locs, Pt.cells, Pt.slots] at X11 ul11 uy11 uz11 st11 hQ11
  subst ul11 uy11 uz11
  obtain ⟨rfl, Nq11, e11⟩ := hQ11
  have N11 := Fr.app N10 Nq11
  have hc70_12 : (own_ms_0 m1) = (own_min_0 nf nl) := own_e1 q1 q2 hm1
  obtain ⟨cq13, kq13, qa13, qb13, qc13⟩ := isOf hZ e11 Ea8
  obtain ⟨_, _, ⟨T13, uL13, uk13, un13⟩, -, X13, ⟨Lc13, hQ13, ul13, uy13, uz13⟩, st13⟩ := X11.virtualBack hx (y := (⟨"com/example/cicada/cicada/node/Backoff", "lengthen", "()V"⟩ : MethodName)) (z := (⟨"com/example/cicada/cicada/node/Backoff", "lengthen", "()V"⟩ : MethodName)) hown (mvT hZ (hw _ (List.mem_of_getElem? (i := 21) rfl))) (mvT hZ (hw _ (List.mem_of_getElem? (i := 22) rfl))) (notFace_of_selects (args := #[]) (mvT hZ (hw _ (List.mem_of_getElem? (i := 24) rfl)))) (mvT hZ (hw _ (List.mem_of_getElem? (i := 24) rfl))) (mvT hZ (hw _ (List.mem_of_getElem? (i := 23) rfl))) (by decide) (backOf (W := 0) (rm4 l Z a0 hw [] a1 nf nl m1 T8.heap n0 Z8 Fa8_firstMs Fa8_lastMs Fa8_ms Ea8 lo1 ) hZ (hw _ (List.mem_of_getElem? (i := 25) rfl)) (hw _ (List.mem_of_getElem? (i := 3) rfl)) (by decide) (by decide)) qa13 qc13 (g := (mkF m 82 #[.val (.long p1), .second, .val (.long p2), .second, .val (.long nf), .second, .val (.long nl), .second, .val (.ref a1), .val (.int (1 : Int32))] [(.ref a1)])) rfl (by rw [hml]; rfl) (Steps.refl _) (argsL := []) (rest := []) (lenOf pd__28_29V rfl) rfl (by show 2 * 0 + _ ≤ _; exact Nat.le_of_eq rfl) (hb hby at_82) (fun _ _ => ⟨rfl, e11, (by decide : 1 + 0 ≤ _), (by decide : 3 + 0 ≤ _)⟩)
  dsimp only [Pt.U, Pt.locs, Pt.cells, Pt.slots] at X13 ul13 uy13 uz13 st13 hQ13
  subst ul13 uy13 uz13
  obtain ⟨rfl, Nq13, K13, Ea13, Fa13_firstMs, Fa13_lastMs, Fa13_ms⟩ := hQ13
  have Z13 : n0 ≤ T13.heap.size := Nat.le_trans Z8 K13.1
  have N13 := Fr.app N11 Nq13
  refine own_go (b := T13.setTop (mkF m 85 #[.val (.long p1), .second, .val (.long p2), .second, .val (.long nf), .second, .val (.long nl), .second, .val (.ref a1), .val (.int (1 : Int32))] [])) (fun t k => ?_) ?_
  · show Steps p.tables e below (T8.setTop (mkF m 52 #[.val (.long p1), .second, .val (.long p2), .second, .val (.long nf), .second, .val (.long nl), .second, .val (.ref a1), .val (.int (1 : Int32))] [])) _
    refine XS.iload X8.here hx rfl (hb hby at_52) rfl ?_
    show Steps p.tables e below (T8.setTop (mkF m 54 #[.val (.long p1), .second, .val (.long p2), .second, .val (.long nf), .second, .val (.long nl), .second, .val (.ref a1), .val (.int (1 : Int32))] [(.int (1 : Int32))])) _
    refine XS.ifNo X8.here hx rfl (hb hby at_54) rfl ((if0 _ _).trans (feq hc54_9).1) ?_
    show Steps p.tables e below (T8.setTop (mkF m 57 #[.val (.long p1), .second, .val (.long p2), .second, .val (.long nf), .second, .val (.long nl), .second, .val (.ref a1), .val (.int (1 : Int32))] [])) _
    refine XS.aload X8.here hx rfl (hb hby at_57) rfl rfl ?_
    show Steps p.tables e below (T8.setTop (mkF m 59 #[.val (.long p1), .second, .val (.long p2), .second, .val (.long nf), .second, .val (.long nl), .second, .val (.ref a1), .val (.int (1 : Int32))] [(.ref a1)])) _
    refine st10.trans ?_
    show Steps p.tables e below (T10.setTop (mkF m 62 #[.val (.long p1), .second, .val (.long p2), .second, .val (.long nf), .second, .val (.long nl), .second, .val (.ref a1), .val (.int (1 : Int32))] [(.long (own_ms_0 m1))])) _
    refine XS.lload X10.here hx rfl (hb hby at_62) rfl ?_
    show Steps p.tables e below (T10.setTop (mkF m 64 #[.val (.long p1), .second, .val (.long p2), .second, .val (.long nf), .second, .val (.long nl), .second, .val (.ref a1), .val (.int (1 : Int32))] [(.long nf), (.long (own_ms_0 m1))])) _
    refine XS.lload X10.here hx rfl (hb hby at_64) rfl ?_
    show Steps p.tables e below (T10.setTop (mkF m 66 #[.val (.long p1), .second, .val (.long p2), .second, .val (.long nf), .second, .val (.long nl), .second, .val (.ref a1), .val (.int (1 : Int32))] [(.long nl), (.long nf), (.long (own_ms_0 m1))])) _
    refine st11 _ ?_
    show Steps p.tables e below (T11.setTop (mkF m 69 #[.val (.long p1), .second, .val (.long p2), .second, .val (.long nf), .second, .val (.long nl), .second, .val (.ref a1), .val (.int (1 : Int32))] [(.long (own_min_0 nf nl)), (.long (own_ms_0 m1))])) _
    refine XS.lcmp X11.here hx rfl (hb hby at_69) rfl ?_
    show Steps p.tables e below (T11.setTop (mkF m 70 #[.val (.long p1), .second, .val (.long p2), .second, .val (.long nf), .second, .val (.long nl), .second, .val (.ref a1), .val (.int (1 : Int32))] [(.int (lcmpW (own_ms_0 m1) (own_min_0 nf nl)))])) _
    refine XS.ifNo X11.here hx rfl (hb hby at_70) rfl ((if0 _ _).trans (teq ((lw_eq (own_ms_0 m1) (own_min_0 nf nl)).mpr hc70_12)).2) ?_
    show Steps p.tables e below (T11.setTop (mkF m 73 #[.val (.long p1), .second, .val (.long p2), .second, .val (.long nf), .second, .val (.long nl), .second, .val (.ref a1), .val (.int (1 : Int32))] [])) _
    refine XS.iconst X11.here hx rfl (hb hby at_73) ?_
    show Steps p.tables e below (T11.setTop (mkF m 74 #[.val (.long p1), .second, .val (.long p2), .second, .val (.long nf), .second, .val (.long nl), .second, .val (.ref a1), .val (.int (1 : Int32))] [(.int (1 : Int32))])) _
    refine XS.goto X11.here hx rfl (pc0 := 74) (pc' := 78) rfl (hb hby at_74) (by decide) (by decide) ?_
    show Steps p.tables e below (T11.setTop (mkF m 78 #[.val (.long p1), .second, .val (.long p2), .second, .val (.long nf), .second, .val (.long nl), .second, .val (.ref a1), .val (.int (1 : Int32))] [(.int (1 : Int32))])) _
    refine XS.istore X11.here hx rfl (hb hby at_78) rfl (l' := #[.val (.long p1), .second, .val (.long p2), .second, .val (.long nf), .second, .val (.long nl), .second, .val (.ref a1), .val (.int (1 : Int32))]) rfl ?_
    show Steps p.tables e below (T11.setTop (mkF m 80 #[.val (.long p1), .second, .val (.long p2), .second, .val (.long nf), .second, .val (.long nl), .second, .val (.ref a1), .val (.int (1 : Int32))] [])) _
    refine XS.aload X11.here hx rfl (hb hby at_80) rfl rfl ?_
    show Steps p.tables e below (T11.setTop (mkF m 82 #[.val (.long p1), .second, .val (.long p2), .second, .val (.long nf), .second, .val (.long nl), .second, .val (.ref a1), .val (.int (1 : Int32))] [(.ref a1)])) _
    refine st13.trans ?_
    show Steps p.tables e below (T13.setTop (mkF m 85 #[.val (.long p1), .second, .val (.long p2), .second, .val (.long nf), .second, .val (.long nl), .second, .val (.ref a1), .val (.int (1 : Int32))] [])) _
    exact k
  obtain ⟨m2, hm2⟩ : ∃ z : Int64, z = (own_len nf nl m1) := ⟨_, rfl⟩
  rw [← hm2] at Fa13_ms
  have hc87_14 : ¬ ((1 : Int32) = (0 : Int32)) := (by decide)
  obtain ⟨cq15, kq15, qa15, qb15, qc15⟩ := isOf hZ rfl Ea13
  obtain ⟨_, _, ⟨T15, uL15, uk15, un15⟩, -, X15, ⟨Lc15, hQ15, ul15, uy15, uz15⟩, st15⟩ := X13.virtualBack hx (y := (⟨"com/example/cicada/cicada/node/Backoff", "ms", "()J"⟩ : MethodName)) (z := (⟨"com/example/cicada/cicada/node/Backoff", "ms", "()J"⟩ : MethodName)) hown (mvT hZ (hw _ (List.mem_of_getElem? (i := 14) rfl))) (mvT hZ (hw _ (List.mem_of_getElem? (i := 15) rfl))) (notFace_of_selects (args := #[]) (mvT hZ (hw _ (List.mem_of_getElem? (i := 17) rfl)))) (mvT hZ (hw _ (List.mem_of_getElem? (i := 17) rfl))) (mvT hZ (hw _ (List.mem_of_getElem? (i := 16) rfl))) (by decide) (backOf (W := 0) (rm2 l Z a0 hw [] a1 m2 T13.heap n0 Z13 Fa13_ms) hZ (hw _ (List.mem_of_getElem? (i := 18) rfl)) (hw _ (List.mem_of_getElem? (i := 3) rfl)) (by decide) (by decide)) qa15 qc15 (g := (mkF m 92 #[.val (.long p1), .second, .val (.long p2), .second, .val (.long nf), .second, .val (.long nl), .second, .val (.ref a1), .val (.int (1 : Int32))] [(.ref a1)])) rfl (by rw [hml]; rfl) (Steps.refl _) (argsL := []) (rest := []) (lenOf pd__28_29J rfl) rfl (by show 2 * 0 + _ ≤ _; exact Nat.le_of_eq rfl) (hb hby at_92) (fun _ _ => ⟨rfl, rfl, (by decide : 1 + 0 ≤ _), (by decide : 3 + 0 ≤ _)⟩)
  dsimp only [Pt.U, Pt.locs, Pt.cells, Pt.slots] at X15 ul15 uy15 uz15 st15 hQ15
  subst ul15 uy15 uz15
  obtain ⟨rfl, Nq15, e15⟩ := hQ15
  have N15 := Fr.app N13 Nq15
  obtain ⟨_, _, ⟨T16, uL16, uk16, un16⟩, -, X16, ⟨Lc16, hQ16, ul16, uy16, uz16⟩, st16⟩ := Jvm.LawKit.callS X15 hx (y := (⟨"java/lang/Math", "min", "(JJ)J"⟩ : MethodName)) hown (mvT hZ (hw _ (List.mem_of_getElem? (i := 26) rfl))) (mvT hZ (hw _ (List.mem_of_getElem? (i := 27) rfl))) (mvT hZ (hw _ (List.mem_of_getElem? (i := 28) rfl))) (mvT hZ (hw _ (List.mem_of_getElem? (i := 29) rfl))) (by decide) (backOf (W := 2) (rm3 l Z a0 hw [] (nf * (2 : Int64)) nl T13.heap n0 Z13 ) hZ (hw _ (List.mem_of_getElem? (i := 29) rfl)) (hw _ (List.mem_of_getElem? (i := 28) rfl)) (by decide) (by decide)) (g := (mkF m 103 #[.val (.long p1), .second, .val (.long p2), .second, .val (.long nf), .second, .val (.long nl), .second, .val (.ref a1), .val (.int (1 : Int32))] [(.long nl), (.long (nf * (2 : Int64))), (.long (own_ms_0 m2))])) rfl (by rw [hml]; rfl) (argsL := [(.long (nf * (2 : Int64))), (.long nl)]) (rest := [(.long (own_ms_0 m2))]) (lenOf pd__28JJ_29J rfl) rfl (by show 2 * 0 + _ ≤ _; exact Nat.le_of_eq rfl) (hb hby at_103) (fun _ _ => ⟨rfl, e15, (by decide : 1 + 0 ≤ _), (by decide : 3 + 0 ≤ _)⟩)
  dsimp only [Pt.U, Pt.locs, Pt.cells, Pt.slots] at X16 ul16 uy16 uz16 st16 hQ16
  subst ul16 uy16 uz16
  obtain ⟨rfl, Nq16, e16⟩ := hQ16
  have N16 := Fr.app N15 Nq16
  have hc107_17 : (own_ms_0 m2) = (own_min_0 (nf * (2 : Int64)) nl) := own_e2 q1 q2 hm1 hm2
  obtain ⟨cq18, kq18, qa18, qb18, qc18⟩ := isOf hZ e16 Ea13
  obtain ⟨_, _, ⟨T18, uL18, uk18, un18⟩, -, X18, ⟨Lc18, hQ18, ul18, uy18, uz18⟩, st18⟩ := X16.virtualBack hx (y := (⟨"com/example/cicada/cicada/node/Backoff", "lengthen", "()V"⟩ : MethodName)) (z := (⟨"com/example/cicada/cicada/node/Backoff", "lengthen", "()V"⟩ : MethodName)) hown (mvT hZ (hw _ (List.mem_of_getElem? (i := 21) rfl))) (mvT hZ (hw _ (List.mem_of_getElem? (i := 22) rfl))) (notFace_of_selects (args := #[]) (mvT hZ (hw _ (List.mem_of_getElem? (i := 24) rfl)))) (mvT hZ (hw _ (List.mem_of_getElem? (i := 24) rfl))) (mvT hZ (hw _ (List.mem_of_getElem? (i := 23) rfl))) (by decide) (backOf (W := 0) (rm4 l Z a0 hw [] a1 nf nl m2 T13.heap n0 Z13 Fa13_firstMs Fa13_lastMs Fa13_ms Ea13 lo1 ) hZ (hw _ (List.mem_of_getElem? (i := 25) rfl)) (hw _ (List.mem_of_getElem? (i := 3) rfl)) (by decide) (by decide)) qa18 qc18 (g := (mkF m 119 #[.val (.long p1), .second, .val (.long p2), .second, .val (.long nf), .second, .val (.long nl), .second, .val (.ref a1), .val (.int (1 : Int32))] [(.ref a1)])) rfl (by rw [hml]; rfl) (Steps.refl _) (argsL := []) (rest := []) (lenOf pd__28_29V rfl) rfl (by show 2 * 0 + _ ≤ _; exact Nat.le_of_eq rfl) (hb hby at_119) (fun _ _ => ⟨rfl, e16, (by decide : 1 + 0 ≤ _), (by decide : 3 + 0 ≤ _)⟩)
  dsimp only [Pt.U, Pt.locs, Pt.cells, Pt.slots] at X18 ul18 uy18 uz18 st18 hQ18
  subst ul18 uy18 uz18
  obtain ⟨rfl, Nq18, K18, Ea18, Fa18_firstMs, Fa18_lastMs, Fa18_ms⟩ := hQ18
  have Z18 : n0 ≤ T18.heap.size := Nat.le_trans Z13 K18.1
  have N18 := Fr.app N16 Nq18
  refine own_go (b := T18.setTop (mkF m 122 #[.val (.long p1), .second, .val (.long p2), .second, .val (.long nf), .second, .val (.long nl), .second, .val (.ref a1), .val (.int (1 : Int32))] [])) (fun t k => ?_) ?_
  · show Steps p.tables e below (T13.setTop (mkF m 85 #[.val (.long p1), .second, .val (.long p2), .second, .val (.long nf), .second, .val (.long nl), .second, .val (.ref a1), .val (.int (1 : Int32))] [])) _
    refine XS.iload X13.here hx rfl (hb hby at_85) rfl ?_
    show Steps p.tables e below (T13.setTop (mkF m 87 #[.val (.long p1), .second, .val (.long p2), .second, .val (.long nf), .second, .val (.long nl), .second, .val (.ref a1), .val (.int (1 : Int32))] [(.int (1 : Int32))])) _
    refine XS.ifNo X13.here hx rfl (hb hby at_87) rfl ((if0 _ _).trans (feq hc87_14).1) ?_
    show Steps p.tables e below (T13.setTop (mkF m 90 #[.val (.long p1), .second, .val (.long p2), .second, .val (.long nf), .second, .val (.long nl), .second, .val (.ref a1), .val (.int (1 : Int32))] [])) _
    refine XS.aload X13.here hx rfl (hb hby at_90) rfl rfl ?_
    show Steps p.tables e below (T13.setTop (mkF m 92 #[.val (.long p1), .second, .val (.long p2), .second, .val (.long nf), .second, .val (.long nl), .second, .val (.ref a1), .val (.int (1 : Int32))] [(.ref a1)])) _
    refine st15.trans ?_
    show Steps p.tables e below (T15.setTop (mkF m 95 #[.val (.long p1), .second, .val (.long p2), .second, .val (.long nf), .second, .val (.long nl), .second, .val (.ref a1), .val (.int (1 : Int32))] [(.long (own_ms_0 m2))])) _
    refine XS.lload X15.here hx rfl (hb hby at_95) rfl ?_
    show Steps p.tables e below (T15.setTop (mkF m 97 #[.val (.long p1), .second, .val (.long p2), .second, .val (.long nf), .second, .val (.long nl), .second, .val (.ref a1), .val (.int (1 : Int32))] [(.long nf), (.long (own_ms_0 m2))])) _
    refine X15.ldc2J hx hown (mvT hZ (hw _ (List.mem_of_getElem? (i := 32) rfl))) rfl (hb hby at_97) ?_
    show Steps p.tables e below (T15.setTop (mkF m 100 #[.val (.long p1), .second, .val (.long p2), .second, .val (.long nf), .second, .val (.long nl), .second, .val (.ref a1), .val (.int (1 : Int32))] [(.long (2 : Int64)), (.long nf), (.long (own_ms_0 m2))])) _
    refine XS.lmul X15.here hx rfl (hb hby at_100) rfl ?_
    show Steps p.tables e below (T15.setTop (mkF m 101 #[.val (.long p1), .second, .val (.long p2), .second, .val (.long nf), .second, .val (.long nl), .second, .val (.ref a1), .val (.int (1 : Int32))] [(.long (nf * (2 : Int64))), (.long (own_ms_0 m2))])) _
    refine XS.lload X15.here hx rfl (hb hby at_101) rfl ?_
    show Steps p.tables e below (T15.setTop (mkF m 103 #[.val (.long p1), .second, .val (.long p2), .second, .val (.long nf), .second, .val (.long nl), .second, .val (.ref a1), .val (.int (1 : Int32))] [(.long nl), (.long (nf * (2 : Int64))), (.long (own_ms_0 m2))])) _
    refine st16 _ ?_
    show Steps p.tables e below (T16.setTop (mkF m 106 #[.val (.long p1), .second, .val (.long p2), .second, .val (.long nf), .second, .val (.long nl), .second, .val (.ref a1), .val (.int (1 : Int32))] [(.long (own_min_0 (nf * (2 : Int64)) nl)), (.long (own_ms_0 m2))])) _
    refine XS.lcmp X16.here hx rfl (hb hby at_106) rfl ?_
    show Steps p.tables e below (T16.setTop (mkF m 107 #[.val (.long p1), .second, .val (.long p2), .second, .val (.long nf), .second, .val (.long nl), .second, .val (.ref a1), .val (.int (1 : Int32))] [(.int (lcmpW (own_ms_0 m2) (own_min_0 (nf * (2 : Int64)) nl)))])) _
    refine XS.ifNo X16.here hx rfl (hb hby at_107) rfl ((if0 _ _).trans (teq ((lw_eq (own_ms_0 m2) (own_min_0 (nf * (2 : Int64)) nl)).mpr hc107_17)).2) ?_
    show Steps p.tables e below (T16.setTop (mkF m 110 #[.val (.long p1), .second, .val (.long p2), .second, .val (.long nf), .second, .val (.long nl), .second, .val (.ref a1), .val (.int (1 : Int32))] [])) _
    refine XS.iconst X16.here hx rfl (hb hby at_110) ?_
    show Steps p.tables e below (T16.setTop (mkF m 111 #[.val (.long p1), .second, .val (.long p2), .second, .val (.long nf), .second, .val (.long nl), .second, .val (.ref a1), .val (.int (1 : Int32))] [(.int (1 : Int32))])) _
    refine XS.goto X16.here hx rfl (pc0 := 111) (pc' := 115) rfl (hb hby at_111) (by decide) (by decide) ?_
    show Steps p.tables e below (T16.setTop (mkF m 115 #[.val (.long p1), .second, .val (.long p2), .second, .val (.long nf), .second, .val (.long nl), .second, .val (.ref a1), .val (.int (1 : Int32))] [(.int (1 : Int32))])) _
    refine XS.istore X16.here hx rfl (hb hby at_115) rfl (l' := #[.val (.long p1), .second, .val (.long p2), .second, .val (.long nf), .second, .val (.long nl), .second, .val (.ref a1), .val (.int (1 : Int32))]) rfl ?_
    show Steps p.tables e below (T16.setTop (mkF m 117 #[.val (.long p1), .second, .val (.long p2), .second, .val (.long nf), .second, .val (.long nl), .second, .val (.ref a1), .val (.int (1 : Int32))] [])) _
    refine XS.aload X16.here hx rfl (hb hby at_117) rfl rfl ?_
    show Steps p.tables e below (T16.setTop (mkF m 119 #[.val (.long p1), .second, .val (.long p2), .second, .val (.long nf), .second, .val (.long nl), .second, .val (.ref a1), .val (.int (1 : Int32))] [(.ref a1)])) _
    refine st18.trans ?_
    show Steps p.tables e below (T18.setTop (mkF m 122 #[.val (.long p1), .second, .val (.long p2), .second, .val (.long nf), .second, .val (.long nl), .second, .val (.ref a1), .val (.int (1 : Int32))] [])) _
    exact k
  obtain ⟨m3, hm3⟩ : ∃ z : Int64, z = (own_len nf nl m2) := ⟨_, rfl⟩
  rw [← hm3] at Fa18_ms
  have hc124_19 : ¬ ((1 : Int32) = (0 : Int32)) := (by decide)
  obtain ⟨cq20, kq20, qa20, qb20, qc20⟩ := isOf hZ rfl Ea18
  obtain ⟨_, _, ⟨T20, uL20, uk20, un20⟩, -, X20, ⟨Lc20, hQ20, ul20, uy20, uz20⟩, st20⟩ := X18.virtualBack hx (y := (⟨"com/example/cicada/cicada/node/Backoff", "ms", "()J"⟩ : MethodName)) (z := (⟨"com/example/cicada/cicada/node/Backoff", "ms", "()J"⟩ : MethodName)) hown (mvT hZ (hw _ (List.mem_of_getElem? (i := 14) rfl))) (mvT hZ (hw _ (List.mem_of_getElem? (i := 15) rfl))) (notFace_of_selects (args := #[]) (mvT hZ (hw _ (List.mem_of_getElem? (i := 17) rfl)))) (mvT hZ (hw _ (List.mem_of_getElem? (i := 17) rfl))) (mvT hZ (hw _ (List.mem_of_getElem? (i := 16) rfl))) (by decide) (backOf (W := 0) (rm2 l Z a0 hw [] a1 m3 T18.heap n0 Z18 Fa18_ms) hZ (hw _ (List.mem_of_getElem? (i := 18) rfl)) (hw _ (List.mem_of_getElem? (i := 3) rfl)) (by decide) (by decide)) qa20 qc20 (g := (mkF m 129 #[.val (.long p1), .second, .val (.long p2), .second, .val (.long nf), .second, .val (.long nl), .second, .val (.ref a1), .val (.int (1 : Int32))] [(.ref a1)])) rfl (by rw [hml]; rfl) (Steps.refl _) (argsL := []) (rest := []) (lenOf pd__28_29J rfl) rfl (by show 2 * 0 + _ ≤ _; exact Nat.le_of_eq rfl) (hb hby at_129) (fun _ _ => ⟨rfl, rfl, (by decide : 1 + 0 ≤ _), (by decide : 3 + 0 ≤ _)⟩)
  dsimp only [Pt.U, Pt.locs, Pt.cells, Pt.slots] at X20 ul20 uy20 uz20 st20 hQ20
  subst ul20 uy20 uz20
  obtain ⟨rfl, Nq20, e20⟩ := hQ20
  have N20 := Fr.app N18 Nq20
  obtain ⟨_, _, ⟨T21, uL21, uk21, un21⟩, -, X21, ⟨Lc21, hQ21, ul21, uy21, uz21⟩, st21⟩ := Jvm.LawKit.callS X20 hx (y := (⟨"java/lang/Math", "min", "(JJ)J"⟩ : MethodName)) hown (mvT hZ (hw _ (List.mem_of_getElem? (i := 26) rfl))) (mvT hZ (hw _ (List.mem_of_getElem? (i := 27) rfl))) (mvT hZ (hw _ (List.mem_of_getElem? (i := 28) rfl))) (mvT hZ (hw _ (List.mem_of_getElem? (i := 29) rfl))) (by decide) (backOf (W := 2) (rm3 l Z a0 hw [] (nf * (4 : Int64)) nl T18.heap n0 Z18 ) hZ (hw _ (List.mem_of_getElem? (i := 29) rfl)) (hw _ (List.mem_of_getElem? (i := 28) rfl)) (by decide) (by decide)) (g := (mkF m 140 #[.val (.long p1), .second, .val (.long p2), .second, .val (.long nf), .second, .val (.long nl), .second, .val (.ref a1), .val (.int (1 : Int32))] [(.long nl), (.long (nf * (4 : Int64))), (.long (own_ms_0 m3))])) rfl (by rw [hml]; rfl) (argsL := [(.long (nf * (4 : Int64))), (.long nl)]) (rest := [(.long (own_ms_0 m3))]) (lenOf pd__28JJ_29J rfl) rfl (by show 2 * 0 + _ ≤ _; exact Nat.le_of_eq rfl) (hb hby at_140) (fun _ _ => ⟨rfl, e20, (by decide : 1 + 0 ≤ _), (by decide : 3 + 0 ≤ _)⟩)
  dsimp only [Pt.U, Pt.locs, Pt.cells, Pt.slots] at X21 ul21 uy21 uz21 st21 hQ21
  subst ul21 uy21 uz21
  obtain ⟨rfl, Nq21, e21⟩ := hQ21
  have N21 := Fr.app N20 Nq21
  have hc144_22 : (own_ms_0 m3) = (own_min_0 (nf * (4 : Int64)) nl) := own_e3 q1 q2 hm1 hm2 hm3
  obtain ⟨cq23, kq23, qa23, qb23, qc23⟩ := isOf hZ e21 Ea18
  obtain ⟨_, _, ⟨T23, uL23, uk23, un23⟩, -, X23, ⟨Lc23, hQ23, ul23, uy23, uz23⟩, st23⟩ := X21.virtualBack hx (y := (⟨"com/example/cicada/cicada/node/Backoff", "lengthen", "()V"⟩ : MethodName)) (z := (⟨"com/example/cicada/cicada/node/Backoff", "lengthen", "()V"⟩ : MethodName)) hown (mvT hZ (hw _ (List.mem_of_getElem? (i := 21) rfl))) (mvT hZ (hw _ (List.mem_of_getElem? (i := 22) rfl))) (notFace_of_selects (args := #[]) (mvT hZ (hw _ (List.mem_of_getElem? (i := 24) rfl)))) (mvT hZ (hw _ (List.mem_of_getElem? (i := 24) rfl))) (mvT hZ (hw _ (List.mem_of_getElem? (i := 23) rfl))) (by decide) (backOf (W := 0) (rm4 l Z a0 hw [] a1 nf nl m3 T18.heap n0 Z18 Fa18_firstMs Fa18_lastMs Fa18_ms Ea18 lo1 ) hZ (hw _ (List.mem_of_getElem? (i := 25) rfl)) (hw _ (List.mem_of_getElem? (i := 3) rfl)) (by decide) (by decide)) qa23 qc23 (g := (mkF m 156 #[.val (.long p1), .second, .val (.long p2), .second, .val (.long nf), .second, .val (.long nl), .second, .val (.ref a1), .val (.int (1 : Int32))] [(.ref a1)])) rfl (by rw [hml]; rfl) (Steps.refl _) (argsL := []) (rest := []) (lenOf pd__28_29V rfl) rfl (by show 2 * 0 + _ ≤ _; exact Nat.le_of_eq rfl) (hb hby at_156) (fun _ _ => ⟨rfl, e21, (by decide : 1 + 0 ≤ _), (by decide : 3 + 0 ≤ _)⟩)
  dsimp only [Pt.U, Pt.locs, Pt.cells, Pt.slots] at X23 ul23 uy23 uz23 st23 hQ23
  subst ul23 uy23 uz23
  obtain ⟨rfl, Nq23, K23, Ea23, Fa23_firstMs, Fa23_lastMs, Fa23_ms⟩ := hQ23
  have Z23 : n0 ≤ T23.heap.size := Nat.le_trans Z18 K23.1
  have N23 := Fr.app N21 Nq23
  refine own_go (b := T23.setTop (mkF m 159 #[.val (.long p1), .second, .val (.long p2), .second, .val (.long nf), .second, .val (.long nl), .second, .val (.ref a1), .val (.int (1 : Int32))] [])) (fun t k => ?_) ?_
  · show Steps p.tables e below (T18.setTop (mkF m 122 #[.val (.long p1), .second, .val (.long p2), .second, .val (.long nf), .second, .val (.long nl), .second, .val (.ref a1), .val (.int (1 : Int32))] [])) _
    refine XS.iload X18.here hx rfl (hb hby at_122) rfl ?_
    show Steps p.tables e below (T18.setTop (mkF m 124 #[.val (.long p1), .second, .val (.long p2), .second, .val (.long nf), .second, .val (.long nl), .second, .val (.ref a1), .val (.int (1 : Int32))] [(.int (1 : Int32))])) _
    refine XS.ifNo X18.here hx rfl (hb hby at_124) rfl ((if0 _ _).trans (feq hc124_19).1) ?_
    show Steps p.tables e below (T18.setTop (mkF m 127 #[.val (.long p1), .second, .val (.long p2), .second, .val (.long nf), .second, .val (.long nl), .second, .val (.ref a1), .val (.int (1 : Int32))] [])) _
    refine XS.aload X18.here hx rfl (hb hby at_127) rfl rfl ?_
    show Steps p.tables e below (T18.setTop (mkF m 129 #[.val (.long p1), .second, .val (.long p2), .second, .val (.long nf), .second, .val (.long nl), .second, .val (.ref a1), .val (.int (1 : Int32))] [(.ref a1)])) _
    refine st20.trans ?_
    show Steps p.tables e below (T20.setTop (mkF m 132 #[.val (.long p1), .second, .val (.long p2), .second, .val (.long nf), .second, .val (.long nl), .second, .val (.ref a1), .val (.int (1 : Int32))] [(.long (own_ms_0 m3))])) _
    refine XS.lload X20.here hx rfl (hb hby at_132) rfl ?_
    show Steps p.tables e below (T20.setTop (mkF m 134 #[.val (.long p1), .second, .val (.long p2), .second, .val (.long nf), .second, .val (.long nl), .second, .val (.ref a1), .val (.int (1 : Int32))] [(.long nf), (.long (own_ms_0 m3))])) _
    refine X20.ldc2J hx hown (mvT hZ (hw _ (List.mem_of_getElem? (i := 33) rfl))) rfl (hb hby at_134) ?_
    show Steps p.tables e below (T20.setTop (mkF m 137 #[.val (.long p1), .second, .val (.long p2), .second, .val (.long nf), .second, .val (.long nl), .second, .val (.ref a1), .val (.int (1 : Int32))] [(.long (4 : Int64)), (.long nf), (.long (own_ms_0 m3))])) _
    refine XS.lmul X20.here hx rfl (hb hby at_137) rfl ?_
    show Steps p.tables e below (T20.setTop (mkF m 138 #[.val (.long p1), .second, .val (.long p2), .second, .val (.long nf), .second, .val (.long nl), .second, .val (.ref a1), .val (.int (1 : Int32))] [(.long (nf * (4 : Int64))), (.long (own_ms_0 m3))])) _
    refine XS.lload X20.here hx rfl (hb hby at_138) rfl ?_
    show Steps p.tables e below (T20.setTop (mkF m 140 #[.val (.long p1), .second, .val (.long p2), .second, .val (.long nf), .second, .val (.long nl), .second, .val (.ref a1), .val (.int (1 : Int32))] [(.long nl), (.long (nf * (4 : Int64))), (.long (own_ms_0 m3))])) _
    refine st21 _ ?_
    show Steps p.tables e below (T21.setTop (mkF m 143 #[.val (.long p1), .second, .val (.long p2), .second, .val (.long nf), .second, .val (.long nl), .second, .val (.ref a1), .val (.int (1 : Int32))] [(.long (own_min_0 (nf * (4 : Int64)) nl)), (.long (own_ms_0 m3))])) _
    refine XS.lcmp X21.here hx rfl (hb hby at_143) rfl ?_
    show Steps p.tables e below (T21.setTop (mkF m 144 #[.val (.long p1), .second, .val (.long p2), .second, .val (.long nf), .second, .val (.long nl), .second, .val (.ref a1), .val (.int (1 : Int32))] [(.int (lcmpW (own_ms_0 m3) (own_min_0 (nf * (4 : Int64)) nl)))])) _
    refine XS.ifNo X21.here hx rfl (hb hby at_144) rfl ((if0 _ _).trans (teq ((lw_eq (own_ms_0 m3) (own_min_0 (nf * (4 : Int64)) nl)).mpr hc144_22)).2) ?_
    show Steps p.tables e below (T21.setTop (mkF m 147 #[.val (.long p1), .second, .val (.long p2), .second, .val (.long nf), .second, .val (.long nl), .second, .val (.ref a1), .val (.int (1 : Int32))] [])) _
    refine XS.iconst X21.here hx rfl (hb hby at_147) ?_
    show Steps p.tables e below (T21.setTop (mkF m 148 #[.val (.long p1), .second, .val (.long p2), .second, .val (.long nf), .second, .val (.long nl), .second, .val (.ref a1), .val (.int (1 : Int32))] [(.int (1 : Int32))])) _
    refine XS.goto X21.here hx rfl (pc0 := 148) (pc' := 152) rfl (hb hby at_148) (by decide) (by decide) ?_
    show Steps p.tables e below (T21.setTop (mkF m 152 #[.val (.long p1), .second, .val (.long p2), .second, .val (.long nf), .second, .val (.long nl), .second, .val (.ref a1), .val (.int (1 : Int32))] [(.int (1 : Int32))])) _
    refine XS.istore X21.here hx rfl (hb hby at_152) rfl (l' := #[.val (.long p1), .second, .val (.long p2), .second, .val (.long nf), .second, .val (.long nl), .second, .val (.ref a1), .val (.int (1 : Int32))]) rfl ?_
    show Steps p.tables e below (T21.setTop (mkF m 154 #[.val (.long p1), .second, .val (.long p2), .second, .val (.long nf), .second, .val (.long nl), .second, .val (.ref a1), .val (.int (1 : Int32))] [])) _
    refine XS.aload X21.here hx rfl (hb hby at_154) rfl rfl ?_
    show Steps p.tables e below (T21.setTop (mkF m 156 #[.val (.long p1), .second, .val (.long p2), .second, .val (.long nf), .second, .val (.long nl), .second, .val (.ref a1), .val (.int (1 : Int32))] [(.ref a1)])) _
    refine st23.trans ?_
    show Steps p.tables e below (T23.setTop (mkF m 159 #[.val (.long p1), .second, .val (.long p2), .second, .val (.long nf), .second, .val (.long nl), .second, .val (.ref a1), .val (.int (1 : Int32))] [])) _
    exact k
  obtain ⟨m4, hm4⟩ : ∃ z : Int64, z = (own_len nf nl m3) := ⟨_, rfl⟩
  rw [← hm4] at Fa23_ms
  have qq := own_all q1 q2 hm1 hm2 hm3 hm4
  have hc161_24 : ¬ ((1 : Int32) = (0 : Int32)) := (by decide)
  obtain ⟨cq25, kq25, qa25, qb25, qc25⟩ := isOf hZ rfl Ea23
  obtain ⟨_, _, ⟨T25, uL25, uk25, un25⟩, -, X25, ⟨Lc25, hQ25, ul25, uy25, uz25⟩, st25⟩ := X23.virtualBack hx (y := (⟨"com/example/cicada/cicada/node/Backoff", "ms", "()J"⟩ : MethodName)) (z := (⟨"com/example/cicada/cicada/node/Backoff", "ms", "()J"⟩ : MethodName)) hown (mvT hZ (hw _ (List.mem_of_getElem? (i := 14) rfl))) (mvT hZ (hw _ (List.mem_of_getElem? (i := 15) rfl))) (notFace_of_selects (args := #[]) (mvT hZ (hw _ (List.mem_of_getElem? (i := 17) rfl)))) (mvT hZ (hw _ (List.mem_of_getElem? (i := 17) rfl))) (mvT hZ (hw _ (List.mem_of_getElem? (i := 16) rfl))) (by decide) (backOf (W := 0) (rm2 l Z a0 hw [] a1 m4 T23.heap n0 Z23 Fa23_ms) hZ (hw _ (List.mem_of_getElem? (i := 18) rfl)) (hw _ (List.mem_of_getElem? (i := 3) rfl)) (by decide) (by decide)) qa25 qc25 (g := (mkF m 166 #[.val (.long p1), .second, .val (.long p2), .second, .val (.long nf), .second, .val (.long nl), .second, .val (.ref a1), .val (.int (1 : Int32))] [(.ref a1)])) rfl (by rw [hml]; rfl) (Steps.refl _) (argsL := []) (rest := []) (lenOf pd__28_29J rfl) rfl (by show 2 * 0 + _ ≤ _; exact Nat.le_of_eq rfl) (hb hby at_166) (fun _ _ => ⟨rfl, rfl, (by decide : 1 + 0 ≤ _), (by decide : 3 + 0 ≤ _)⟩)
  dsimp only [Pt.U, Pt.locs, Pt.cells, Pt.slots] at X25 ul25 uy25 uz25 st25 hQ25
  subst ul25 uy25 uz25
  obtain ⟨rfl, Nq25, e25⟩ := hQ25
  have N25 := Fr.app N23 Nq25
  obtain ⟨_, _, ⟨T26, uL26, uk26, un26⟩, -, X26, ⟨Lc26, hQ26, ul26, uy26, uz26⟩, st26⟩ := Jvm.LawKit.callS X25 hx (y := (⟨"java/lang/Math", "min", "(JJ)J"⟩ : MethodName)) hown (mvT hZ (hw _ (List.mem_of_getElem? (i := 26) rfl))) (mvT hZ (hw _ (List.mem_of_getElem? (i := 27) rfl))) (mvT hZ (hw _ (List.mem_of_getElem? (i := 28) rfl))) (mvT hZ (hw _ (List.mem_of_getElem? (i := 29) rfl))) (by decide) (backOf (W := 2) (rm3 l Z a0 hw [] (nf * (8 : Int64)) nl T23.heap n0 Z23 ) hZ (hw _ (List.mem_of_getElem? (i := 29) rfl)) (hw _ (List.mem_of_getElem? (i := 28) rfl)) (by decide) (by decide)) (g := (mkF m 177 #[.val (.long p1), .second, .val (.long p2), .second, .val (.long nf), .second, .val (.long nl), .second, .val (.ref a1), .val (.int (1 : Int32))] [(.long nl), (.long (nf * (8 : Int64))), (.long (own_ms_0 m4))])) rfl (by rw [hml]; rfl) (argsL := [(.long (nf * (8 : Int64))), (.long nl)]) (rest := [(.long (own_ms_0 m4))]) (lenOf pd__28JJ_29J rfl) rfl (by show 2 * 0 + _ ≤ _; exact Nat.le_of_eq rfl) (hb hby at_177) (fun _ _ => ⟨rfl, e25, (by decide : 1 + 0 ≤ _), (by decide : 3 + 0 ≤ _)⟩)
  dsimp only [Pt.U, Pt.locs, Pt.cells, Pt.slots] at X26 ul26 uy26 uz26 st26 hQ26
  subst ul26 uy26 uz26
  obtain ⟨rfl, Nq26, e26⟩ := hQ26
  have N26 := Fr.app N25 Nq26
  have hc181_27 : (own_ms_0 m4) = (own_min_0 (nf * (8 : Int64)) nl) := qq.2.2.2
  refine own_end X26 Bd.notSynchronized (v := some (.int (1 : Int32))) (fun h => by rw [Bd.returns] at h; cases h) (fun fs hr => ?_) e26 ?_ (by decide) (by decide)
  · show Steps p.tables e below (T23.setTop (mkF m 159 #[.val (.long p1), .second, .val (.long p2), .second, .val (.long nf), .second, .val (.long nl), .second, .val (.ref a1), .val (.int (1 : Int32))] [])) _
    refine XS.iload X23.here hx rfl (hb hby at_159) rfl ?_
    show Steps p.tables e below (T23.setTop (mkF m 161 #[.val (.long p1), .second, .val (.long p2), .second, .val (.long nf), .second, .val (.long nl), .second, .val (.ref a1), .val (.int (1 : Int32))] [(.int (1 : Int32))])) _
    refine XS.ifNo X23.here hx rfl (hb hby at_161) rfl ((if0 _ _).trans (feq hc161_24).1) ?_
    show Steps p.tables e below (T23.setTop (mkF m 164 #[.val (.long p1), .second, .val (.long p2), .second, .val (.long nf), .second, .val (.long nl), .second, .val (.ref a1), .val (.int (1 : Int32))] [])) _
    refine XS.aload X23.here hx rfl (hb hby at_164) rfl rfl ?_
    show Steps p.tables e below (T23.setTop (mkF m 166 #[.val (.long p1), .second, .val (.long p2), .second, .val (.long nf), .second, .val (.long nl), .second, .val (.ref a1), .val (.int (1 : Int32))] [(.ref a1)])) _
    refine st25.trans ?_
    show Steps p.tables e below (T25.setTop (mkF m 169 #[.val (.long p1), .second, .val (.long p2), .second, .val (.long nf), .second, .val (.long nl), .second, .val (.ref a1), .val (.int (1 : Int32))] [(.long (own_ms_0 m4))])) _
    refine XS.lload X25.here hx rfl (hb hby at_169) rfl ?_
    show Steps p.tables e below (T25.setTop (mkF m 171 #[.val (.long p1), .second, .val (.long p2), .second, .val (.long nf), .second, .val (.long nl), .second, .val (.ref a1), .val (.int (1 : Int32))] [(.long nf), (.long (own_ms_0 m4))])) _
    refine X25.ldc2J hx hown (mvT hZ (hw _ (List.mem_of_getElem? (i := 34) rfl))) rfl (hb hby at_171) ?_
    show Steps p.tables e below (T25.setTop (mkF m 174 #[.val (.long p1), .second, .val (.long p2), .second, .val (.long nf), .second, .val (.long nl), .second, .val (.ref a1), .val (.int (1 : Int32))] [(.long (8 : Int64)), (.long nf), (.long (own_ms_0 m4))])) _
    refine XS.lmul X25.here hx rfl (hb hby at_174) rfl ?_
    show Steps p.tables e below (T25.setTop (mkF m 175 #[.val (.long p1), .second, .val (.long p2), .second, .val (.long nf), .second, .val (.long nl), .second, .val (.ref a1), .val (.int (1 : Int32))] [(.long (nf * (8 : Int64))), (.long (own_ms_0 m4))])) _
    refine XS.lload X25.here hx rfl (hb hby at_175) rfl ?_
    show Steps p.tables e below (T25.setTop (mkF m 177 #[.val (.long p1), .second, .val (.long p2), .second, .val (.long nf), .second, .val (.long nl), .second, .val (.ref a1), .val (.int (1 : Int32))] [(.long nl), (.long (nf * (8 : Int64))), (.long (own_ms_0 m4))])) _
    refine st26 _ ?_
    show Steps p.tables e below (T26.setTop (mkF m 180 #[.val (.long p1), .second, .val (.long p2), .second, .val (.long nf), .second, .val (.long nl), .second, .val (.ref a1), .val (.int (1 : Int32))] [(.long (own_min_0 (nf * (8 : Int64)) nl)), (.long (own_ms_0 m4))])) _
    refine XS.lcmp X26.here hx rfl (hb hby at_180) rfl ?_
    show Steps p.tables e below (T26.setTop (mkF m 181 #[.val (.long p1), .second, .val (.long p2), .second, .val (.long nf), .second, .val (.long nl), .second, .val (.ref a1), .val (.int (1 : Int32))] [(.int (lcmpW (own_ms_0 m4) (own_min_0 (nf * (8 : Int64)) nl)))])) _
    refine XS.ifNo X26.here hx rfl (hb hby at_181) rfl ((if0 _ _).trans (teq ((lw_eq (own_ms_0 m4) (own_min_0 (nf * (8 : Int64)) nl)).mpr hc181_27)).2) ?_
    show Steps p.tables e below (T26.setTop (mkF m 184 #[.val (.long p1), .second, .val (.long p2), .second, .val (.long nf), .second, .val (.long nl), .second, .val (.ref a1), .val (.int (1 : Int32))] [])) _
    refine XS.iconst X26.here hx rfl (hb hby at_184) ?_
    show Steps p.tables e below (T26.setTop (mkF m 185 #[.val (.long p1), .second, .val (.long p2), .second, .val (.long nf), .second, .val (.long nl), .second, .val (.ref a1), .val (.int (1 : Int32))] [(.int (1 : Int32))])) _
    refine XS.goto X26.here hx rfl (pc0 := 185) (pc' := 189) rfl (hb hby at_185) (by decide) (by decide) ?_
    show Steps p.tables e below (T26.setTop (mkF m 189 #[.val (.long p1), .second, .val (.long p2), .second, .val (.long nf), .second, .val (.long nl), .second, .val (.ref a1), .val (.int (1 : Int32))] [(.int (1 : Int32))])) _
    refine XS.istore X26.here hx rfl (hb hby at_189) rfl (l' := #[.val (.long p1), .second, .val (.long p2), .second, .val (.long nf), .second, .val (.long nl), .second, .val (.ref a1), .val (.int (1 : Int32))]) rfl ?_
    show Steps p.tables e below (T26.setTop (mkF m 191 #[.val (.long p1), .second, .val (.long p2), .second, .val (.long nf), .second, .val (.long nl), .second, .val (.ref a1), .val (.int (1 : Int32))] [])) _
    refine XS.iload X26.here hx rfl (hb hby at_191) rfl ?_
    show Steps p.tables e below (T26.setTop (mkF m 193 #[.val (.long p1), .second, .val (.long p2), .second, .val (.long nf), .second, .val (.long nl), .second, .val (.ref a1), .val (.int (1 : Int32))] [(.int (1 : Int32))])) _
    exact retN X26 hx (t := .boolean) Bd.returns (by simp) (hb hby at_193) hr
  · exact ⟨rfl, N26⟩
set_option maxRecDepth 65536 in
set_option maxHeartbeats 40000000 in
theorem comes_1 {Post : Tables → Env → Array Value → State → Outcome → State → Prop} (hpost : ∀ tb e args s v u, (limb_1_1.after args s (.returned v) u = true ∧ limb_1_2.after args s (.returned v) u = true ∧ True) → FrameEnd s (.returned v) u (Jvm.fieldLocs frame_1_writes args s ++ Jvm.arrayLocs frame_1_arrays args s ++ Jvm.staticLocs frame_1_statics s) 16 128 → Post tb e args s (.returned v) u) :
    ArmFor flags0 classFile x code maxLocals ret World_1 tables_1 room_1 Calls_1 rest_1 Pre_1 Post := by
  intro l hfl _ _ p e ha hc hk s m args below hf hA hF happ hP
  obtain ⟨hcalls, hrest, hpre⟩ := hP
  obtain ⟨-, -, -, hnamed, -, -, -, hat⟩ := (Spec.applies_iff hf).mp happ
  obtain ⟨hg, hn⟩ := and_e (Cond.before_iff.mp (show (Jvm.Cond.and given_1 narrow_1).before args s = true from hpre))
  obtain ⟨g0, r0⟩ := and_e hg
  obtain ⟨g1, r1⟩ := and_e r0
  obtain ⟨w0, w1, rfl⟩ : ∃ w0 w1 : Value, args = #[w0, w1] := by
    have hs : args.size = 2 := by simpa [Cond.value, given_1] using g0
    obtain ⟨L⟩ := args
    match L, hs with
    | [w0, w1], _ => exact ⟨w0, w1, rfl⟩
  have hw := fun d (hd : d ∈ tables_1) => atoms_spec (ws := Jvm.Cond.code x code maxLocals ret :: tables_1) hat d (List.mem_cons_of_mem _ hd)
  obtain ⟨i0, y0⟩ := isL_v g1
  obtain rfl : w0 = (.long i0) := Option.some.inj y0
  obtain ⟨i1, y1⟩ := isL_v r1
  obtain rfl : w1 = (.long i1) := Option.some.inj y1
  obtain ⟨n, o, h1, h2, h3, _, L, rfl, ⟨rfl, N⟩, hq⟩ := rm0 l s _ hw tables_1 i0 i1 s.heap s.heap.size (Nat.le_refl _) p e ha hc hk s m _ below hf ((Spec.applies_iff_loose hf).mp happ).1 ⟨rfl, State.Warmed39.refl s, rfl⟩ trivial
  refine ⟨n, _, h1, h2, h3, hpost _ _ _ _ _ _ ⟨Cond.after_iff.mpr rfl, Cond.after_iff.mpr (eq_i res_at (Term.int_eval (1)) rfl), trivial⟩ ⟨hq.1, hq.2.1, (hq.2.2.sift fun y hy => Or.inr (N y hy)).mono (by decide) (by decide)⟩⟩
theorem main_1_1 : Claimed_1_1 := comes_1 fun _ _ _ _ _ _ h hF => ⟨h.1, hF⟩
theorem main_1_2 : Claimed_1_2 := comes_1 fun _ _ _ _ _ _ h hF => ⟨h.2.1, hF⟩
end Jvm.Pilot.@@N@@
namespace Jvm.Pilot.@@N@@
open Jvm Jvm.ClassFile Sem Op Lib Jvm.Free Jvm.Stand Jvm.Pilot.@@N@@.Jvm.D
/-! MADE BY PROGRAM (witnessworld.py) out of the Statement's table words and the real class files: 10 classes; the members and pool entries that the words name. The judged class is class 1, her method 1. -/
namespace start1
open Jvm.ClassFile
def u (s : String) : CpInfo := .utf8 (stringToUtf16 s)
/-- a pool by its gaps: so many unusable entries, then the entry; so many at the end -/
def gap : Nat → List CpInfo → List CpInfo
  | 0, r => r
  | n + 1, r => .unusable :: gap n r
def poolList (es : List (Nat × CpInfo)) (last : Nat) : List CpInfo := es.foldr (fun e r => gap e.1 (e.2 :: r)) (gap last [])
def pool (es : List (Nat × CpInfo)) (last : Nat) : Array CpInfo := ⟨poolList es last⟩
def fileOf (pool : Array CpInfo) (this : Nat) (attrs : Array Attribute := #[]) (ms : Array MethodInfo := #[]) (fl : Nat := 33) (sup : Nat := 0) (ifs : Array Nat := #[]) (fds : Array FieldInfo := #[]) : ClassFile where
  minorVersion := 0
  majorVersion := 65
  constantPool := pool
  accessFlags := fl
  thisClass := this
  superClass := sup
  interfaces := ifs
  fields := fds
  methods := ms
  attributes := attrs
def plain (name : String) (sup : Option ClassId) : Class where
  name := name
  kind := .ordinary
  loader := none
  accessFlags := 33
  super := sup
  interfaces := #[]
  cf := none
  fields := #[]
  methods := #[]
  instanceTypes := #[]
  staticTypes := #[]
  resolved := #[]
  callSites := []
  init := .initialized
  statics := none
  mirror := none

def pool0 : Array CpInfo := pool [(5, u "<init>"), (0, u "()V"), (1, .class_ 10), (1, u "java/lang/Object")] 113

def k0c0 : Code := { maxStack := 0, maxLocals := 1, code := object_method_1_code, exceptionTable := #[], attributes := #[] }
def k0m0 : Method := { name := "<init>", desc := "()V", sig := { parameters := [], returnType := none }, accessFlags := 1, code := some k0c0 }
/-- java/lang/Object -/
def k0 : Class := { plain "java/lang/Object" none with
  accessFlags := 33
  interfaces := #[]
  cf := some (fileOf pool0 8 #[] #[{ accessFlags := 1, nameIndex := 5, descriptorIndex := 6, attributes := #[] }] 33 0 #[] #[])
  fields := #[]
  methods := #[k0m0]
  instanceTypes := #[]
  staticTypes := #[]
  resolved := Array.replicate 124 none
  statics := none }

def pool1 : Array CpInfo := pool [(2, .class_ 4), (1, u "java/lang/Object"), (0, u "<init>"), (0, u "()V"), (0, .long 288230376151711743), (1, .class_ 10), (0, u "com/example/cicada/cicada/node/Backoff"), (0, .methodref 9 12), (0, .nameAndType 5 13), (0, u "(JJ)V"), (0, .methodref 9 15), (0, .nameAndType 16 17), (0, u "ms"), (0, u "()J"), (0, .methodref 9 19), (0, .nameAndType 20 6), (0, u "lengthen"), (0, .methodref 22 23), (0, .class_ 24), (0, .nameAndType 25 26), (0, u "java/lang/Math"), (0, u "min"), (0, u "(JJ)J"), (0, .long 2), (1, .long 4), (1, .long 8), (1, .class_ 34), (0, u "com/example/cicada/cicada/node/BackoffLengthenPinLaw"), (2, u "law"), (0, u "(JJ)Z")] 3

def k1m0 : Method := { name := "<init>", desc := "()V", sig := { parameters := [], returnType := none }, accessFlags := 2, code := none }
def k1c1 : Code := { maxStack := 6, maxLocals := 10, code := code, exceptionTable := #[], attributes := #[] }
def k1m1 : Method := { name := "law", desc := "(JJ)Z", sig := { parameters := [.long, .long], returnType := some .boolean }, accessFlags := 9, code := some k1c1 }
/-- com/example/cicada/cicada/node/BackoffLengthenPinLaw -/
def k1 : Class := { plain "com/example/cicada/cicada/node/BackoffLengthenPinLaw" (some 0) with
  accessFlags := 49
  interfaces := #[]
  cf := some (fileOf pool1 33 #[] #[{ accessFlags := 2, nameIndex := 5, descriptorIndex := 6, attributes := #[] }, { accessFlags := 9, nameIndex := 37, descriptorIndex := 38, attributes := #[] }] 49 2 #[] #[])
  fields := #[]
  methods := #[k1m0, k1m1]
  instanceTypes := #[]
  staticTypes := #[]
  resolved := Array.replicate 42 none
  statics := none }

def pool2 : Array CpInfo := pool [(1, .methodref 2 3), (0, .class_ 4), (0, .nameAndType 5 6), (0, u "java/lang/Object"), (0, u "<init>"), (0, u "()V"), (0, .fieldref 8 9), (0, .class_ 10), (0, .nameAndType 11 12), (0, u "com/example/cicada/cicada/node/Backoff"), (0, u "firstMs"), (0, u "J"), (0, .fieldref 8 14), (0, .nameAndType 15 12), (0, u "lastMs"), (0, .fieldref 8 17), (0, .nameAndType 18 12), (0, u "ms"), (0, .long 2), (1, .methodref 22 23), (0, .class_ 24), (0, .nameAndType 25 26), (0, u "java/lang/Math"), (0, u "min"), (0, u "(JJ)J"), (0, u "(JJ)V"), (2, u "()J"), (0, u "lengthen")] 4

def k2c0 : Code := { maxStack := 3, maxLocals := 5, code := prog_62_method_1_code, exceptionTable := #[], attributes := #[] }
def k2m0 : Method := { name := "<init>", desc := "(JJ)V", sig := { parameters := [.long, .long], returnType := none }, accessFlags := 0, code := some k2c0 }
def k2c1 : Code := { maxStack := 2, maxLocals := 1, code := prog_62_method_2_code, exceptionTable := #[], attributes := #[] }
def k2m1 : Method := { name := "ms", desc := "()J", sig := { parameters := [], returnType := some .long }, accessFlags := 0, code := some k2c1 }
def k2c2 : Code := { maxStack := 5, maxLocals := 1, code := prog_62_method_3_code, exceptionTable := #[], attributes := #[] }
def k2m2 : Method := { name := "lengthen", desc := "()V", sig := { parameters := [], returnType := none }, accessFlags := 0, code := some k2c2 }
/-- com/example/cicada/cicada/node/Backoff -/
def k2 : Class := { plain "com/example/cicada/cicada/node/Backoff" (some 0) with
  accessFlags := 48
  interfaces := #[]
  cf := some (fileOf pool2 8 #[] #[{ accessFlags := 0, nameIndex := 5, descriptorIndex := 27, attributes := #[] }, { accessFlags := 0, nameIndex := 18, descriptorIndex := 30, attributes := #[] }, { accessFlags := 0, nameIndex := 31, descriptorIndex := 6, attributes := #[] }] 48 2 #[] #[{ accessFlags := 18, nameIndex := 11, descriptorIndex := 12, attributes := #[] }, { accessFlags := 18, nameIndex := 15, descriptorIndex := 12, attributes := #[] }, { accessFlags := 2, nameIndex := 18, descriptorIndex := 12, attributes := #[] }])
  fields := #[{ name := "firstMs", type := .long, accessFlags := 18, slot := 0, constantValue := 0 }, { name := "lastMs", type := .long, accessFlags := 18, slot := 1, constantValue := 0 }, { name := "ms", type := .long, accessFlags := 2, slot := 2, constantValue := 0 }]
  methods := #[k2m0, k2m1, k2m2]
  instanceTypes := #[.long, .long, .long]
  staticTypes := #[]
  resolved := Array.replicate 36 none
  statics := none }

def pool3 : Array CpInfo := pool [(1, .class_ 2), (0, u "java/lang/Math"), (1, .class_ 6), (1, u "java/lang/Object"), (0, u "<init>"), (0, u "()V"), (89, .class_ 100), (1, u "java/lang/Math$RandomNumberGeneratorHolder"), (20, u "(JJ)J"), (50, u "negativeZeroFloatBits"), (0, u "J"), (2, u "negativeZeroDoubleBits"), (24, u "min"), (43, u "$assertionsDisabled"), (0, u "Z"), (91, u "twoToTheDoubleScaleDown"), (0, u "D"), (4, u "twoToTheDoubleScaleUp"), (9, u "E"), (3, u "PI"), (2, u "TAU"), (2, u "DEGREES_TO_RADIANS"), (0, u "RADIANS_TO_DEGREES")] 94

def k3m0 : Method := { name := "<init>", desc := "()V", sig := { parameters := [], returnType := none }, accessFlags := 2, code := none }
def k3c1 : Code := { maxStack := 4, maxLocals := 4, code := jdk_29_method_70_code, exceptionTable := #[], attributes := #[] }
def k3m1 : Method := { name := "min", desc := "(JJ)J", sig := { parameters := [.long, .long], returnType := some .long }, accessFlags := 9, code := some k3c1 }
/-- java/lang/Math -/
def k3 : Class := { plain "java/lang/Math" (some 0) with
  accessFlags := 49
  interfaces := #[]
  cf := some (fileOf pool3 1 #[.nestMembers #[98]] #[{ accessFlags := 2, nameIndex := 7, descriptorIndex := 8, attributes := #[] }, { accessFlags := 9, nameIndex := 201, descriptorIndex := 121, attributes := #[] }] 49 4 #[] #[{ accessFlags := 25, nameIndex := 354, descriptorIndex := 339, attributes := #[] }, { accessFlags := 25, nameIndex := 358, descriptorIndex := 339, attributes := #[] }, { accessFlags := 25, nameIndex := 361, descriptorIndex := 339, attributes := #[] }, { accessFlags := 26, nameIndex := 364, descriptorIndex := 339, attributes := #[] }, { accessFlags := 26, nameIndex := 365, descriptorIndex := 339, attributes := #[] }, { accessFlags := 26, nameIndex := 172, descriptorIndex := 173, attributes := #[] }, { accessFlags := 26, nameIndex := 176, descriptorIndex := 173, attributes := #[] }, { accessFlags := 8, nameIndex := 344, descriptorIndex := 339, attributes := #[] }, { accessFlags := 8, nameIndex := 338, descriptorIndex := 339, attributes := #[] }, { accessFlags := 4120, nameIndex := 245, descriptorIndex := 246, attributes := #[] }])
  fields := #[{ name := "E", type := .double, accessFlags := 25, slot := 0, constantValue := 0 }, { name := "PI", type := .double, accessFlags := 25, slot := 1, constantValue := 0 }, { name := "TAU", type := .double, accessFlags := 25, slot := 2, constantValue := 0 }, { name := "DEGREES_TO_RADIANS", type := .double, accessFlags := 26, slot := 3, constantValue := 0 }, { name := "RADIANS_TO_DEGREES", type := .double, accessFlags := 26, slot := 4, constantValue := 0 }, { name := "negativeZeroFloatBits", type := .long, accessFlags := 26, slot := 5, constantValue := 0 }, { name := "negativeZeroDoubleBits", type := .long, accessFlags := 26, slot := 6, constantValue := 0 }, { name := "twoToTheDoubleScaleUp", type := .double, accessFlags := 8, slot := 7, constantValue := 0 }, { name := "twoToTheDoubleScaleDown", type := .double, accessFlags := 8, slot := 8, constantValue := 0 }, { name := "$assertionsDisabled", type := .boolean, accessFlags := 4120, slot := 9, constantValue := 0 }]
  methods := #[k3m0, k3m1]
  instanceTypes := #[]
  staticTypes := #[.double, .double, .double, .double, .double, .long, .long, .double, .double, .boolean]
  resolved := Array.replicate 460 none
  statics := none }

def pool4 : Array CpInfo := pool [(1, u "java/lang/Cloneable"), (0, .class_ 1), (0, u "java/lang/Object"), (0, .class_ 3)] 3

/-- java/lang/Cloneable -/
def k4 : Class := { plain "java/lang/Cloneable" (some 0) with
  accessFlags := 1537
  interfaces := #[]
  cf := some (fileOf pool4 2 #[] #[] 1537 4 #[] #[])
  fields := #[]
  methods := #[]
  instanceTypes := #[]
  staticTypes := #[]
  resolved := Array.replicate 8 none
  statics := none }

def pool5 : Array CpInfo := pool [(1, u "java/io/Serializable"), (0, .class_ 1), (0, u "java/lang/Object"), (0, .class_ 3)] 3

/-- java/io/Serializable -/
def k5 : Class := { plain "java/io/Serializable" (some 0) with
  accessFlags := 1537
  interfaces := #[]
  cf := some (fileOf pool5 2 #[] #[] 1537 4 #[] #[])
  fields := #[]
  methods := #[]
  instanceTypes := #[]
  staticTypes := #[]
  resolved := Array.replicate 8 none
  statics := none }

/-- the primitive byte -/
def k6 : Class := { plain "byte" none with kind := .primitive 'B', accessFlags := 0x411 }
/-- [B -/
def k7 : Class := { plain "[B" (some 0) with kind := .array 6 .byte, interfaces := #[4, 5], accessFlags := 1041 }

/-- the primitive int -/
def k8 : Class := { plain "int" none with kind := .primitive 'I', accessFlags := 0x411 }
/-- [I -/
def k9 : Class := { plain "[I" (some 0) with kind := .array 8 .int, interfaces := #[4, 5], accessFlags := 1041 }

def heap : Heap := #[]
def classes : Array Class := #[k0, k1, k2, k3, k4, k5, k6, k7, k8, k9]
def interned : List (Array UInt16 × Addr) := []
def slotsUsed : Nat := 0
def theMethod : MethodId := ⟨1, 1⟩
def args0 : Array Value := #[.long 5, .long 1]
def aboutOver (below : List Frame) : State where
  vm := { classes := classes, interned := interned.toArray }
  heap := heap
  slotsUsed := slotsUsed
  threads := #[{ frames := .invoking theMethod args0 :: below }]
def below0 : List Frame := [.native { method := ⟨0, 0⟩, args := #[] }]
def about1 : State := aboutOver below0
def p0 : Program := .bare "" "" ""
def e0 : Env := launch0.env 0 0 0
theorem w_frames : about1.frames = Frame.invoking theMethod args0 :: below0 := rfl
set_option maxRecDepth 65536 in
theorem w_args : argsFit about1.vm theMethod args0 = true := by decide +kernel
set_option maxRecDepth 65536 in
theorem w_heap : heapFits about1 = true := by decide +kernel
set_option maxRecDepth 65536 in
theorem w_runnable : about1.curStatus? = some .runnable := by decide +kernel
set_option maxRecDepth 65536 in
theorem w_alone : about1.alone = true := by decide +kernel
set_option maxRecDepth 65536 in
theorem w_named : about1.methodNamed? x = some theMethod := by decide +kernel
set_option maxRecDepth 65536 in
theorem w_hears : about1.hears theMethod below0 = true := by decide +kernel
set_option maxRecDepth 65536 in
theorem w_ripe : about1.ripe theMethod args0 below0 = true := by decide +kernel
theorem w_running : about1.status = .running := rfl
set_option maxRecDepth 65536 in
theorem w_room : about1.hasRoom e0.platform room_1 = true :=
  launch0.hasRoom_least _ room_1 (by decide +kernel) (by decide +kernel) (by decide +kernel) (by decide +kernel) (by decide +kernel) (by decide +kernel)
theorem allAtoms_all (ts : List Jvm.Cond) (a : Array Jvm.Value) (st : Jvm.State) : (allAtoms ts).before a st = ts.all (fun c => c.before a st) := by
  induction ts with
  | nil => rfl
  | cons c t ih =>
    show (Jvm.Cond.and c (allAtoms t)).before a st = _
    rw [Jvm.Cond.before_and, ih, List.all_cons]
def words1 : List Jvm.Cond := Jvm.Cond.code x code maxLocals ret :: tables_1
/-- a 'code' word, met by the world's own term for the bytes: nothing is compared byte by byte -/
theorem code_word {y : MethodName} {bytes : ByteArray} {mx : Nat} {rt : Option FieldType} {a : Array Value} {s : State} {m : MethodId} {meth : Method} {c : Code} (h1 : s.methodNamed? y = some m) (h2 : s.vm.method? m = some meth) (h3 : meth.code = some c) (h4 : c.code = bytes)
    (h5 : (c.maxLocals == mx && c.exceptionTable.isEmpty && decide (c.maxStack ≤ mostOperands) && decide (meth.sig.returnType = rt) && !meth.locks && decide (parseMethodDescriptor y.desc = some meth.sig)) = true) : (Jvm.Cond.code y bytes mx rt).before a s = true := by
  simp only [Bool.and_eq_true, beq_iff_eq, Bool.not_eq_true', decide_eq_true_eq] at h5
  obtain ⟨⟨⟨⟨⟨g1, g2⟩, g3⟩, g4⟩, g5⟩, g6⟩ := h5
  simp [Cond.before, Cond.holds, Cond.value, h1, h2, h3, h4, g1, g2, g3, g4, g5, g6]
def isCode : Jvm.Cond → Bool
  | .code _ _ _ _ => true
  | _ => false
theorem all_split {L : List Jvm.Cond} {P : Jvm.Cond → Bool} (h1 : L.all (fun c => isCode c || P c) = true) (h2 : ∀ c ∈ L.filter isCode, P c = true) : L.all P = true := by
  refine List.all_eq_true.mpr fun c hc => ?_
  have h := List.all_eq_true.mp h1 c hc
  rcases Bool.eq_false_or_eq_true (isCode c) with hi | hi
  · exact h2 c (List.mem_filter.mpr ⟨hc, hi⟩)
  · simpa [hi] using h
set_option maxRecDepth 65536 in
theorem w_c0 : (Jvm.Cond.code x code maxLocals ret).before args0 about1 = true := code_word (m := ⟨1, 1⟩) (meth := k1m1) (c := k1c1) (by decide +kernel) rfl rfl rfl (by decide +kernel)
set_option maxRecDepth 65536 in
theorem w_c1 : (Jvm.Cond.code ({ cls := "com/example/cicada/cicada/node/Backoff", name := "<init>", desc := "(JJ)V" } : Jvm.MethodName) prog_62_method_1_code (5 : Nat) (Option.none : Option Jvm.ClassFile.FieldType)).before args0 about1 = true := code_word (m := ⟨2, 0⟩) (meth := k2m0) (c := k2c0) (by decide +kernel) rfl rfl rfl (by decide +kernel)
set_option maxRecDepth 65536 in
theorem w_c2 : (Jvm.Cond.code ({ cls := "java/lang/Object", name := "<init>", desc := "()V" } : Jvm.MethodName) object_method_1_code (1 : Nat) (Option.none : Option Jvm.ClassFile.FieldType)).before args0 about1 = true := code_word (m := ⟨0, 0⟩) (meth := k0m0) (c := k0c0) (by decide +kernel) rfl rfl rfl (by decide +kernel)
set_option maxRecDepth 65536 in
theorem w_c3 : (Jvm.Cond.code ({ cls := "com/example/cicada/cicada/node/Backoff", name := "ms", desc := "()J" } : Jvm.MethodName) prog_62_method_2_code (1 : Nat) (Option.some Jvm.ClassFile.FieldType.long)).before args0 about1 = true := code_word (m := ⟨2, 1⟩) (meth := k2m1) (c := k2c1) (by decide +kernel) rfl rfl rfl (by decide +kernel)
set_option maxRecDepth 65536 in
theorem w_c4 : (Jvm.Cond.code ({ cls := "com/example/cicada/cicada/node/Backoff", name := "lengthen", desc := "()V" } : Jvm.MethodName) prog_62_method_3_code (1 : Nat) (Option.none : Option Jvm.ClassFile.FieldType)).before args0 about1 = true := code_word (m := ⟨2, 2⟩) (meth := k2m2) (c := k2c2) (by decide +kernel) rfl rfl rfl (by decide +kernel)
set_option maxRecDepth 65536 in
theorem w_c5 : (Jvm.Cond.code ({ cls := "java/lang/Math", name := "min", desc := "(JJ)J" } : Jvm.MethodName) jdk_29_method_70_code (4 : Nat) (Option.some Jvm.ClassFile.FieldType.long)).before args0 about1 = true := code_word (m := ⟨3, 1⟩) (meth := k3m1) (c := k3c1) (by decide +kernel) rfl rfl rfl (by decide +kernel)
def codes1 : List Jvm.Cond := [Jvm.Cond.code x code maxLocals ret, Jvm.Cond.code ({ cls := "com/example/cicada/cicada/node/Backoff", name := "<init>", desc := "(JJ)V" } : Jvm.MethodName) prog_62_method_1_code (5 : Nat) (Option.none : Option Jvm.ClassFile.FieldType), Jvm.Cond.code ({ cls := "java/lang/Object", name := "<init>", desc := "()V" } : Jvm.MethodName) object_method_1_code (1 : Nat) (Option.none : Option Jvm.ClassFile.FieldType), Jvm.Cond.code ({ cls := "com/example/cicada/cicada/node/Backoff", name := "ms", desc := "()J" } : Jvm.MethodName) prog_62_method_2_code (1 : Nat) (Option.some Jvm.ClassFile.FieldType.long), Jvm.Cond.code ({ cls := "com/example/cicada/cicada/node/Backoff", name := "lengthen", desc := "()V" } : Jvm.MethodName) prog_62_method_3_code (1 : Nat) (Option.none : Option Jvm.ClassFile.FieldType), Jvm.Cond.code ({ cls := "java/lang/Math", name := "min", desc := "(JJ)J" } : Jvm.MethodName) jdk_29_method_70_code (4 : Nat) (Option.some Jvm.ClassFile.FieldType.long)]
set_option maxRecDepth 65536 in
theorem codes_eq : words1.filter isCode = codes1 := rfl
theorem w_codes : ∀ c ∈ words1.filter isCode, c.before args0 about1 = true := by
  rw [codes_eq]
  intro c hc
  simp only [codes1, List.mem_cons, List.not_mem_nil, or_false] at hc
  rcases hc with rfl | rfl | rfl | rfl | rfl | rfl
  · exact w_c0
  · exact w_c1
  · exact w_c2
  · exact w_c3
  · exact w_c4
  · exact w_c5
set_option maxRecDepth 65536 in
theorem w_t1 : (words1.take 24).all (fun c => isCode c || c.before args0 about1) = true := by decide +kernel
set_option maxRecDepth 65536 in
theorem w_t2 : (words1.drop 24).all (fun c => isCode c || c.before args0 about1) = true := by decide +kernel
theorem w_tables : (allAtoms (Jvm.Cond.code x code maxLocals ret :: tables_1)).before args0 about1 = true := by
  rw [allAtoms_all]
  show words1.all (fun c => c.before args0 about1) = true
  refine all_split ?_ w_codes
  rw [← List.take_append_drop 24 words1, List.all_append, w_t1, w_t2]
  rfl
set_option maxRecDepth 65536 in
theorem w_case : (Jvm.Cond.and given_1 narrow_1).before args0 about1 = true := by decide +kernel
theorem w_applies : (headSpec (Jvm.Cond.code x code maxLocals ret :: tables_1) room_1).applies x e0.platform about1 = true :=
  (Spec.applies_iff w_frames).mpr ⟨w_running, w_runnable, w_alone, w_named, w_hears, w_ripe, w_room, w_tables⟩
theorem atStart : AtStart classFile x code maxLocals ret World_1 tables_1 room_1 Calls_1 rest_1 Pre_1 launch0 p0 e0 about1 theMethod args0 below0 :=
  ⟨lists_1, trivial, launch0.admits_env _ _ _, launch0.least_env, fairChoices_fair.cas, fairChoices_fair.clock, w_frames, w_args, w_heap, w_applies, trivial, trivial, w_case⟩
end start1
theorem witness_1 : WitnessClaimed_1 := ⟨start1.p0, start1.e0, start1.about1, start1.theMethod, start1.args0, start1.below0, start1.atStart⟩
end Jvm.Pilot.@@N@@
