import JvmDerived
import JvmDerived.Pilot.@@N@@Statement
import JvmDerived.Pilot.@@N@@Code
set_option linter.unusedVariables false
set_option linter.unusedSimpArgs false
@@BLOCK:NumsL.lean.txt@@
@@BLOCK:Masks.lean.txt@@
namespace Jvm.RoadKit
open Sem ClassFile Op Lib Jvm.Stand Jvm.Free Jvm.LawKit
section New
variable {p : Program} {l : Launch} {e : Env} {R : Room} {s : State} {m : MethodId} {args : Array Value} {below : List Frame} {meth : Method} {c : Code} {T : State} {locs : List Loc} {cells slots : Nat}
theorem retI (X : Stand p l e R s m args below meth c T locs cells slots) (hx : p.tables.exec = Jvm.exec) {pc : Nat} {Ls : Array Slot} {z : Int32} {rest : List Value} (hret : meth.sig.returnType = some .int) (hd : decode c.code pc = .ok (.ireturn, 1)) {fs : List Frame}
    (hl : ∀ (f : JFrame) (acts : List Action), f.method = m → f.locked = none → f.entered = [] → (doReturn e (T.setTop f) acts (some (.int z))).1 = T.setFrames fs) : Steps p.tables e below (T.setTop (mkF m pc Ls (.int z :: rest))) (T.setFrames fs) := by
  have hm' : T.vm.method? m = some meth := X.method'
  have hn : narrow .int (.int z) = .int z := rfl
  show Steps p.tables e below (T.setTop { method := m, pc := pc, locals := Ls, stack := _ :: rest, locked := none }) _
  jvm_step X.here [X.here.top, hx, hd, hm', hret, hn]
  first | (intro acts; rw [hl _ acts rfl rfl rfl]) | rw [hl _ _ rfl rfl rfl]
  exact Steps.refl _
end New
end Jvm.RoadKit
namespace Jvm.Pilot.@@N@@
open Jvm Jvm.ClassFile Sem Op Lib Jvm.Free Jvm.Stand Jvm.LawKit Jvm.RoadKit Bundle Jvm.Pilot.@@N@@.Jvm.D
abbrev own_Go (p : Program) (e : Env) (below : List Frame) (s : State) (Q : Option Value → Heap → List Loc → Prop) (cs ss : Nat) (a : State) : Prop := ∃ (t : State) (o : Outcome), Steps p.tables e below a t ∧ t.status = .running ∧ Ended t below o ∧ ∃ (v : Option Value) (L : List Loc), o = .returned v ∧ Q v t.heap L ∧ FrameEnd s o t L cs ss
section Own
variable {p : Program} {l : Launch} {e : Env} {R : Room} {s : State} {m : MethodId} {args : Array Value} {below : List Frame} {meth : Method} {c : Code} {T : State} {locs : List Loc} {cells slots : Nat} {Q : Option Value → Heap → List Loc → Prop} {cs ss : Nat}
theorem own_go {a b : State} (h : ∀ t, Steps p.tables e below b t → Steps p.tables e below a t) (g : own_Go p e below s Q cs ss b) : own_Go p e below s Q cs ss a := by
  obtain ⟨t, o, h1, h2⟩ := g
  exact ⟨t, o, h t h1, h2⟩
theorem own_end (X : Stand p l e R s m args below meth c T locs cells slots) (hlk : meth.locks = false) {v : Option Value} (hv : meth.sig.returnType = none → v = none) {a : State}
    (hs : ∀ fs, (∀ (f : JFrame) (acts : List Action), f.method = m → f.locked = none → f.entered = [] → (doReturn e (T.setTop f) acts v).1 = T.setFrames fs) → Steps p.tables e below a (T.setFrames fs))
    {h : Heap} (eT : T.heap = h) (hq : Q v h locs) (h1 : cells ≤ cs) (h2 : slots ≤ ss) : own_Go p e below s Q cs ss a := by
  obtain ⟨fs, hr, hrun, hended, hW, hsame⟩ := X.leave hv hlk
  subst eT
  exact ⟨_, _, hs fs hr, hrun, hended, _, _, rfl, hq, ⟨_, rfl⟩, hW, hsame.mono h1 h2⟩
theorem own_lc {k : Nat} (X : Stand p l e R s m args below meth c T locs cells slots) (N : Fr k locs) : ∃ lc, Stand p l e R s m args below meth c T lc cells slots ∧ Fr k lc := ⟨_, X, N⟩
end Own
theorem own_hin {n : Nat} {cl : Cell} {j : Int32} (S : cl.slots.size = n) (h : ¬ j < 0 ∧ j.toNatClampNeg < n) : ¬ (j < 0 ∨ cl.slots.size ≤ j.toNatClampNeg) := by
  rw [S]; exact fun q => q.elim h.1 (fun u => absurd h.2 (Nat.not_lt.mpr u))
theorem own_has {cl : Cell} {xs : List Int32} {n : Nat} (H : Has cl (xs.map Value.int) (.int 0)) (S : cl.slots.size = n) : ∀ i, i < n → cl.slots[i]? = some (.int (xs.getD i 0)) := by
  intro i hi
  rw [H i (by rw [S]; exact hi)]
  simp only [List.getD_eq_getElem?_getD, List.getElem?_map]
  cases xs[i]? <;> rfl
theorem own_hasL {cl : Cell} {xs : List Int64} {n : Nat} (H : Has cl (xs.map Value.long) (.long 0)) (S : cl.slots.size = n) : ∀ i, i < n → cl.slots[i]? = some (.long (xs.getD i 0)) := by
  intro i hi
  rw [H i (by rw [S]; exact hi)]
  simp only [List.getD_eq_getElem?_getD, List.getElem?_map]
  cases xs[i]? <;> rfl
def own_cs_12 (x0 : Int64) (x1 : Int64) (x2 : Int64) (x3 : Int64) (x4 : Int64) (x5 : Int64) : List Int64 :=
  if x2 < x1 then
    [x0, x2, x1, x3, x4, x5]
  else
    [x0, x1, x2, x3, x4, x5]
theorem dC_0 : decode method_2_code 0 = .ok (.aload_n 0, 1) := by decide +kernel
theorem dC_1 : decode method_2_code 1 = .ok (.iload_n 2, 1) := by decide +kernel
theorem dC_2 : decode method_2_code 2 = .ok (.laload, 1) := by decide +kernel
theorem dC_3 : decode method_2_code 3 = .ok (.aload_n 0, 1) := by decide +kernel
theorem dC_4 : decode method_2_code 4 = .ok (.iload_n 1, 1) := by decide +kernel
theorem dC_5 : decode method_2_code 5 = .ok (.laload, 1) := by decide +kernel
theorem dC_6 : decode method_2_code 6 = .ok (.lcmp, 1) := by decide +kernel
theorem dC_7 : decode method_2_code 7 = .ok (.ifCond .ge 17, 3) := by decide +kernel
theorem dC_10 : decode method_2_code 10 = .ok (.aload_n 0, 1) := by decide +kernel
theorem dC_11 : decode method_2_code 11 = .ok (.iload_n 1, 1) := by decide +kernel
theorem dC_12 : decode method_2_code 12 = .ok (.laload, 1) := by decide +kernel
theorem dC_13 : decode method_2_code 13 = .ok (.lstore_n 3, 1) := by decide +kernel
theorem dC_14 : decode method_2_code 14 = .ok (.aload_n 0, 1) := by decide +kernel
theorem dC_15 : decode method_2_code 15 = .ok (.iload_n 1, 1) := by decide +kernel
theorem dC_16 : decode method_2_code 16 = .ok (.aload_n 0, 1) := by decide +kernel
theorem dC_17 : decode method_2_code 17 = .ok (.iload_n 2, 1) := by decide +kernel
theorem dC_18 : decode method_2_code 18 = .ok (.laload, 1) := by decide +kernel
theorem dC_19 : decode method_2_code 19 = .ok (.lastore, 1) := by decide +kernel
theorem dC_20 : decode method_2_code 20 = .ok (.aload_n 0, 1) := by decide +kernel
theorem dC_21 : decode method_2_code 21 = .ok (.iload_n 2, 1) := by decide +kernel
theorem dC_22 : decode method_2_code 22 = .ok (.lload_n 3, 1) := by decide +kernel
theorem dC_23 : decode method_2_code 23 = .ok (.lastore, 1) := by decide +kernel
theorem dC_24 : decode method_2_code 24 = .ok (.return_, 1) := by decide +kernel
theorem pn_c12 : plainName "com/example/kdata/kdata/LongHeapRemoveLeastPinLaw" = true := by first | (simp [plainName, overriddenIn]; done) | decide +kernel
theorem ef_c12 (m : MethodId) (x0 : Addr) (x1 : Int32) (x2 : Int32) : entryFrame m #[(.ref x0), (.int x1), (.int x2)] 5 = mkF m 0 #[.val (.ref x0), .val (.int x1), .val (.int x2), .unset, .unset] [] := by first | (simp [entryFrame, mkF, argsToLocals, Value.category]; done) | rfl
def Qc12 (Z : State) (b1 : Addr) (k1 : ClassId) (x0 : Int64) (x1 : Int64) (x2 : Int64) (x3 : Int64) (x4 : Int64) (x5 : Int64) (h0 : Heap) (n0 : Nat) (v : Option Value) (h : Heap) (L : List Loc) : Prop := v = none ∧ Fr n0 L ∧ Keep h0 h [b1] ∧ ∃ z0 z1 z2 z3 z4 z5 : Int64, [z0, z1, z2, z3, z4, z5] = own_cs_12 x0 x1 x2 x3 x4 x5 ∧ Arv Z h b1 k1 .long (6 : Int32) [(.long z0), (.long z1), (.long z2), (.long z3), (.long z4), (.long z5)] (.long (0 : Int64))
set_option maxRecDepth 65536 in
set_option maxHeartbeats 40000000 in
theorem rmc12 (l : Launch) (Z : State) (a0 : Array Value) (hw : ∀ d ∈ tables_1, d.before a0 Z = true) (ws : List Jvm.Cond)  (b1 : Addr) (k1 : ClassId) (x0 : Int64) (x1 : Int64) (x2 : Int64) (x3 : Int64) (x4 : Int64) (x5 : Int64) (h0 : Heap) (n0 : Nat) (Z0 : n0 ≤ h0.size) (V_b1 : Arv Z h0 b1 k1 .long (6 : Int32) [(.long x0), (.long x1), (.long x2), (.long x3), (.long x4), (.long x5)] (.long (0 : Int64))) (lo_b1 : n0 ≤ b1) :
    MetFree l (⟨"com/example/kdata/kdata/LongHeapRemoveLeastPinLaw", "cs", "([JII)V"⟩ : MethodName) (head1 (Jvm.Cond.code (⟨"com/example/kdata/kdata/LongHeapRemoveLeastPinLaw", "cs", "([JII)V"⟩ : MethodName) method_2_code 5 none :: ws) ({ frames := 0, cells := 0, slots := 0, locals := 0 } : Room)) (fun a U => a = #[(.ref b1), (.int (1 : Int32)), (.int (2 : Int32))] ∧ Z.Warmed39 U.vm ∧ U.heap = h0) (fun _ _ _ _ _ => True) (fun _ U o U' => ∃ v L, o = .returned v ∧ Qc12 Z b1 k1 x0 x1 x2 x3 x4 x5 h0 n0 v U'.heap L ∧ FrameEnd U o U' L ({ frames := 0, cells := 0, slots := 0, locals := 0 } : Room).cells ({ frames := 0, cells := 0, slots := 0, locals := 0 } : Room).slots) := by
  refine MetFree.of_bodySF (plainFor_of_name pn_c12) hisR ?_
  intro p e s m args below meth c s₁ Bd hml0 hP hK
  obtain ⟨rfl, hZ, hh⟩ := hP
  have hx := Bd.exec
  have hby := Bd.bytes
  have hml : c.maxLocals = 5 := hml0
  have hown : s.vm.findClass "com/example/kdata/kdata/LongHeapRemoveLeastPinLaw" = some m.cls := findClass_of_methodNamed Bd.named
  have hnm := (name_of_methodNamed Bd.named Bd.method).1
  have X0 : Stand p l e ({ frames := 0, cells := 0, slots := 0, locals := 0 } : Room) s m #[(.ref b1), (.int (1 : Int32)), (.int (2 : Int32))] below meth c s₁ [] 0 0 := Stand.of_body Bd
  have e0 : s₁.heap = h0 := by rw [← hh, Bd.state]; rfl
  have N0 := Fr.nil n0
  show own_Go p e below s (Qc12 Z b1 k1 x0 x1 x2 x3 x4 x5 h0 n0) ({ frames := 0, cells := 0, slots := 0, locals := 0 } : Room).cells ({ frames := 0, cells := 0, slots := 0, locals := 0 } : Room).slots (s₁.setTop (entryFrame m #[(.ref b1), (.int (1 : Int32)), (.int (2 : Int32))] 5))
  refine own_go (b := s₁.setTop (mkF m 0 #[.val (.ref b1), .val (.int (1 : Int32)), .val (.int (2 : Int32)), .unset, .unset] [])) (fun t k => castTop (ef_c12 m b1 (1 : Int32) (2 : Int32)) k) ?_
  have K0 := Keep.refl h0 [b1]
  obtain ⟨cl1, Ar1, q1, S1, M1, H1, U1⟩ := id V_b1
  have hi2 : ¬ (2 : Int32) < 0 ∧ (2 : Int32).toNatClampNeg < (6 : Int32).toNatClampNeg := by decide
  have ha2 : cl1.slots[(2 : Int32).toNatClampNeg]? = some (.long x2) := H1 _ (by rw [S1]; exact hi2.2)
  have hi3 : ¬ (1 : Int32) < 0 ∧ (1 : Int32).toNatClampNeg < (6 : Int32).toNatClampNeg := by decide
  have ha3 : cl1.slots[(1 : Int32).toNatClampNeg]? = some (.long x1) := H1 _ (by rw [S1]; exact hi3.2)
  refine own_go (b := s₁.setTop (mkF m 7 #[.val (.ref b1), .val (.int (1 : Int32)), .val (.int (2 : Int32)), .unset, .unset] [(.int (lcmpW x2 x1))])) (fun t k => ?_) ?_
  · show Steps p.tables e below (s₁.setTop (mkF m 0 #[.val (.ref b1), .val (.int (1 : Int32)), .val (.int (2 : Int32)), .unset, .unset] [])) _
    refine XS.aloadN X0.here hx rfl (hb hby dC_0) rfl rfl ?_
    show Steps p.tables e below (s₁.setTop (mkF m 1 #[.val (.ref b1), .val (.int (1 : Int32)), .val (.int (2 : Int32)), .unset, .unset] [(.ref b1)])) _
    refine XS.iloadN X0.here hx rfl (hb hby dC_1) rfl ?_
    show Steps p.tables e below (s₁.setTop (mkF m 2 #[.val (.ref b1), .val (.int (1 : Int32)), .val (.int (2 : Int32)), .unset, .unset] [(.int (2 : Int32)), (.ref b1)])) _
    refine X0.laload hx (j := (2 : Int32)) (v := (.long x2)) (by rw [e0]; exact Ar1.1) (State.isArrayOf_alike hZ.alike Ar1.2.1) Ar1.2.2 (own_hin S1 hi2) ha2 (g := (mkF m 2 #[.val (.ref b1), .val (.int (1 : Int32)), .val (.int (2 : Int32)), .unset, .unset] [(.int (2 : Int32)), (.ref b1)])) rfl rfl (hb hby dC_2) _ ?_
    show Steps p.tables e below (s₁.setTop (mkF m 3 #[.val (.ref b1), .val (.int (1 : Int32)), .val (.int (2 : Int32)), .unset, .unset] [(.long x2)])) _
    refine XS.aloadN X0.here hx rfl (hb hby dC_3) rfl rfl ?_
    show Steps p.tables e below (s₁.setTop (mkF m 4 #[.val (.ref b1), .val (.int (1 : Int32)), .val (.int (2 : Int32)), .unset, .unset] [(.ref b1), (.long x2)])) _
    refine XS.iloadN X0.here hx rfl (hb hby dC_4) rfl ?_
    show Steps p.tables e below (s₁.setTop (mkF m 5 #[.val (.ref b1), .val (.int (1 : Int32)), .val (.int (2 : Int32)), .unset, .unset] [(.int (1 : Int32)), (.ref b1), (.long x2)])) _
    refine X0.laload hx (j := (1 : Int32)) (v := (.long x1)) (by rw [e0]; exact Ar1.1) (State.isArrayOf_alike hZ.alike Ar1.2.1) Ar1.2.2 (own_hin S1 hi3) ha3 (g := (mkF m 5 #[.val (.ref b1), .val (.int (1 : Int32)), .val (.int (2 : Int32)), .unset, .unset] [(.int (1 : Int32)), (.ref b1), (.long x2)])) rfl rfl (hb hby dC_5) _ ?_
    show Steps p.tables e below (s₁.setTop (mkF m 6 #[.val (.ref b1), .val (.int (1 : Int32)), .val (.int (2 : Int32)), .unset, .unset] [(.long x1), (.long x2)])) _
    refine XS.lcmp X0.here hx rfl (hb hby dC_6) rfl ?_
    show Steps p.tables e below (s₁.setTop (mkF m 7 #[.val (.ref b1), .val (.int (1 : Int32)), .val (.int (2 : Int32)), .unset, .unset] [(.int (lcmpW x2 x1))])) _
    exact k
  by_cases hc7 : x2 < x1
  · have hi4 : ¬ (1 : Int32) < 0 ∧ (1 : Int32).toNatClampNeg < (6 : Int32).toNatClampNeg := by decide
    have ha4 : cl1.slots[(1 : Int32).toNatClampNeg]? = some (.long x1) := H1 _ (by rw [S1]; exact hi4.2)
    have hi5 : ¬ (2 : Int32) < 0 ∧ (2 : Int32).toNatClampNeg < (6 : Int32).toNatClampNeg := by decide
    have ha5 : cl1.slots[(2 : Int32).toNatClampNeg]? = some (.long x2) := H1 _ (by rw [S1]; exact hi5.2)
    obtain ⟨T6, h6, X6, e6, W6, st6⟩ := stJ X0 hx hZ e0 Ar1 (j := (1 : Int32)) (by rw [S1]; decide) (g := (mkF m 19 #[.val (.ref b1), .val (.int (1 : Int32)), .val (.int (2 : Int32)), .val (.long x1), .second] [(.long x2), (.int (1 : Int32)), (.ref b1)])) rfl rfl (hb hby dC_19)
    have N6 := Fr.snoc X6 N0 lo_b1
    obtain ⟨lc6, X6, N6⟩ := own_lc X6 N6
    have V7 : Arv Z h6 b1 k1 .long (6 : Int32) [(.long x0), (.long x2), (.long x2), (.long x3), (.long x4), (.long x5)] (.long (0 : Int64)) := Arv.set Ar1 q1 S1 M1 H1 U1 rfl W6 1 rfl (by show 1 < 6; decide)
    have K6 := K0.wr W6 (Or.inl (List.mem_of_getElem? (i := 0) rfl))
    have Z6 : n0 ≤ h6.size := by rw [W6.size]; exact Z0
    obtain ⟨cl8, Ar8, q8, S8, M8, H8, U8⟩ := id V7
    obtain ⟨T9, h9, X9, e9, W9, st9⟩ := stJ X6 hx hZ e6 Ar8 (j := (2 : Int32)) (by rw [S8]; decide) (g := (mkF m 23 #[.val (.ref b1), .val (.int (1 : Int32)), .val (.int (2 : Int32)), .val (.long x1), .second] [(.long x1), (.int (2 : Int32)), (.ref b1)])) rfl rfl (hb hby dC_23)
    have N9 := Fr.snoc X9 N6 lo_b1
    obtain ⟨lc9, X9, N9⟩ := own_lc X9 N9
    have V10 : Arv Z h9 b1 k1 .long (6 : Int32) [(.long x0), (.long x2), (.long x1), (.long x3), (.long x4), (.long x5)] (.long (0 : Int64)) := Arv.set Ar8 q8 S8 M8 H8 U8 rfl W9 2 rfl (by show 2 < 6; decide)
    have K9 := K6.wr W9 (Or.inl (List.mem_of_getElem? (i := 0) rfl))
    have Z9 : n0 ≤ h9.size := by rw [W9.size]; exact Z6
    refine own_end X9 Bd.notSynchronized (v := none) (fun _ => rfl) (fun fs hr => ?_) e9 ?_ (by decide) (by decide)
    · show Steps p.tables e below (s₁.setTop (mkF m 7 #[.val (.ref b1), .val (.int (1 : Int32)), .val (.int (2 : Int32)), .unset, .unset] [(.int (lcmpW x2 x1))])) _
      refine XS.ifNo X0.here hx rfl (hb hby dC_7) rfl ((if0 _ _).trans (tlt ((lw_lt x2 x1).mpr hc7)).2.1) ?_
      show Steps p.tables e below (s₁.setTop (mkF m 10 #[.val (.ref b1), .val (.int (1 : Int32)), .val (.int (2 : Int32)), .unset, .unset] [])) _
      refine XS.aloadN X0.here hx rfl (hb hby dC_10) rfl rfl ?_
      show Steps p.tables e below (s₁.setTop (mkF m 11 #[.val (.ref b1), .val (.int (1 : Int32)), .val (.int (2 : Int32)), .unset, .unset] [(.ref b1)])) _
      refine XS.iloadN X0.here hx rfl (hb hby dC_11) rfl ?_
      show Steps p.tables e below (s₁.setTop (mkF m 12 #[.val (.ref b1), .val (.int (1 : Int32)), .val (.int (2 : Int32)), .unset, .unset] [(.int (1 : Int32)), (.ref b1)])) _
      refine X0.laload hx (j := (1 : Int32)) (v := (.long x1)) (by rw [e0]; exact Ar1.1) (State.isArrayOf_alike hZ.alike Ar1.2.1) Ar1.2.2 (own_hin S1 hi4) ha4 (g := (mkF m 12 #[.val (.ref b1), .val (.int (1 : Int32)), .val (.int (2 : Int32)), .unset, .unset] [(.int (1 : Int32)), (.ref b1)])) rfl rfl (hb hby dC_12) _ ?_
      show Steps p.tables e below (s₁.setTop (mkF m 13 #[.val (.ref b1), .val (.int (1 : Int32)), .val (.int (2 : Int32)), .unset, .unset] [(.long x1)])) _
      refine XS.lstoreN X0.here hx rfl (hb hby dC_13) rfl (l' := #[.val (.ref b1), .val (.int (1 : Int32)), .val (.int (2 : Int32)), .val (.long x1), .second]) rfl ?_
      show Steps p.tables e below (s₁.setTop (mkF m 14 #[.val (.ref b1), .val (.int (1 : Int32)), .val (.int (2 : Int32)), .val (.long x1), .second] [])) _
      refine XS.aloadN X0.here hx rfl (hb hby dC_14) rfl rfl ?_
      show Steps p.tables e below (s₁.setTop (mkF m 15 #[.val (.ref b1), .val (.int (1 : Int32)), .val (.int (2 : Int32)), .val (.long x1), .second] [(.ref b1)])) _
      refine XS.iloadN X0.here hx rfl (hb hby dC_15) rfl ?_
      show Steps p.tables e below (s₁.setTop (mkF m 16 #[.val (.ref b1), .val (.int (1 : Int32)), .val (.int (2 : Int32)), .val (.long x1), .second] [(.int (1 : Int32)), (.ref b1)])) _
      refine XS.aloadN X0.here hx rfl (hb hby dC_16) rfl rfl ?_
      show Steps p.tables e below (s₁.setTop (mkF m 17 #[.val (.ref b1), .val (.int (1 : Int32)), .val (.int (2 : Int32)), .val (.long x1), .second] [(.ref b1), (.int (1 : Int32)), (.ref b1)])) _
      refine XS.iloadN X0.here hx rfl (hb hby dC_17) rfl ?_
      show Steps p.tables e below (s₁.setTop (mkF m 18 #[.val (.ref b1), .val (.int (1 : Int32)), .val (.int (2 : Int32)), .val (.long x1), .second] [(.int (2 : Int32)), (.ref b1), (.int (1 : Int32)), (.ref b1)])) _
      refine X0.laload hx (j := (2 : Int32)) (v := (.long x2)) (by rw [e0]; exact Ar1.1) (State.isArrayOf_alike hZ.alike Ar1.2.1) Ar1.2.2 (own_hin S1 hi5) ha5 (g := (mkF m 18 #[.val (.ref b1), .val (.int (1 : Int32)), .val (.int (2 : Int32)), .val (.long x1), .second] [(.int (2 : Int32)), (.ref b1), (.int (1 : Int32)), (.ref b1)])) rfl rfl (hb hby dC_18) _ ?_
      show Steps p.tables e below (s₁.setTop (mkF m 19 #[.val (.ref b1), .val (.int (1 : Int32)), .val (.int (2 : Int32)), .val (.long x1), .second] [(.long x2), (.int (1 : Int32)), (.ref b1)])) _
      refine st6 _ ?_
      show Steps p.tables e below (T6.setTop (mkF m 20 #[.val (.ref b1), .val (.int (1 : Int32)), .val (.int (2 : Int32)), .val (.long x1), .second] [])) _
      refine XS.aloadN X6.here hx rfl (hb hby dC_20) rfl rfl ?_
      show Steps p.tables e below (T6.setTop (mkF m 21 #[.val (.ref b1), .val (.int (1 : Int32)), .val (.int (2 : Int32)), .val (.long x1), .second] [(.ref b1)])) _
      refine XS.iloadN X6.here hx rfl (hb hby dC_21) rfl ?_
      show Steps p.tables e below (T6.setTop (mkF m 22 #[.val (.ref b1), .val (.int (1 : Int32)), .val (.int (2 : Int32)), .val (.long x1), .second] [(.int (2 : Int32)), (.ref b1)])) _
      refine XS.lloadN X6.here hx rfl (hb hby dC_22) rfl ?_
      show Steps p.tables e below (T6.setTop (mkF m 23 #[.val (.ref b1), .val (.int (1 : Int32)), .val (.int (2 : Int32)), .val (.long x1), .second] [(.long x1), (.int (2 : Int32)), (.ref b1)])) _
      refine st9 _ ?_
      show Steps p.tables e below (T9.setTop (mkF m 24 #[.val (.ref b1), .val (.int (1 : Int32)), .val (.int (2 : Int32)), .val (.long x1), .second] [])) _
      exact X9.returnOut hx Bd.returns (hb hby dC_24) hr
    · exact ⟨rfl, N9, K9, _, _, _, _, _, _, by rw [own_cs_12, if_pos hc7], V10⟩
  · refine own_end X0 Bd.notSynchronized (v := none) (fun _ => rfl) (fun fs hr => ?_) e0 ?_ (by decide) (by decide)
    · show Steps p.tables e below (s₁.setTop (mkF m 7 #[.val (.ref b1), .val (.int (1 : Int32)), .val (.int (2 : Int32)), .unset, .unset] [(.int (lcmpW x2 x1))])) _
      refine XS.ifYes X0.here hx rfl (pc0 := 7) (pc' := 24) rfl (hb hby dC_7) rfl ((if0 _ _).trans (flt (fun q => hc7 ((lw_lt x2 x1).mp q))).2.1) (by decide) (by decide) ?_
      show Steps p.tables e below (s₁.setTop (mkF m 24 #[.val (.ref b1), .val (.int (1 : Int32)), .val (.int (2 : Int32)), .unset, .unset] [])) _
      exact X0.returnOut hx Bd.returns (hb hby dC_24) hr
    · exact ⟨rfl, N0, K0, _, _, _, _, _, _, by rw [own_cs_12, if_neg hc7], V_b1⟩
def own_cs_02 (x0 : Int64) (x1 : Int64) (x2 : Int64) (x3 : Int64) (x4 : Int64) (x5 : Int64) : List Int64 :=
  if x2 < x0 then
    [x2, x1, x0, x3, x4, x5]
  else
    [x0, x1, x2, x3, x4, x5]
theorem pn_c02 : plainName "com/example/kdata/kdata/LongHeapRemoveLeastPinLaw" = true := by first | (simp [plainName, overriddenIn]; done) | decide +kernel
theorem ef_c02 (m : MethodId) (x0 : Addr) (x1 : Int32) (x2 : Int32) : entryFrame m #[(.ref x0), (.int x1), (.int x2)] 5 = mkF m 0 #[.val (.ref x0), .val (.int x1), .val (.int x2), .unset, .unset] [] := by first | (simp [entryFrame, mkF, argsToLocals, Value.category]; done) | rfl
def Qc02 (Z : State) (b1 : Addr) (k1 : ClassId) (x0 : Int64) (x1 : Int64) (x2 : Int64) (x3 : Int64) (x4 : Int64) (x5 : Int64) (h0 : Heap) (n0 : Nat) (v : Option Value) (h : Heap) (L : List Loc) : Prop := v = none ∧ Fr n0 L ∧ Keep h0 h [b1] ∧ ∃ z0 z1 z2 z3 z4 z5 : Int64, [z0, z1, z2, z3, z4, z5] = own_cs_02 x0 x1 x2 x3 x4 x5 ∧ Arv Z h b1 k1 .long (6 : Int32) [(.long z0), (.long z1), (.long z2), (.long z3), (.long z4), (.long z5)] (.long (0 : Int64))
set_option maxRecDepth 65536 in
set_option maxHeartbeats 40000000 in
theorem rmc02 (l : Launch) (Z : State) (a0 : Array Value) (hw : ∀ d ∈ tables_1, d.before a0 Z = true) (ws : List Jvm.Cond)  (b1 : Addr) (k1 : ClassId) (x0 : Int64) (x1 : Int64) (x2 : Int64) (x3 : Int64) (x4 : Int64) (x5 : Int64) (h0 : Heap) (n0 : Nat) (Z0 : n0 ≤ h0.size) (V_b1 : Arv Z h0 b1 k1 .long (6 : Int32) [(.long x0), (.long x1), (.long x2), (.long x3), (.long x4), (.long x5)] (.long (0 : Int64))) (lo_b1 : n0 ≤ b1) :
    MetFree l (⟨"com/example/kdata/kdata/LongHeapRemoveLeastPinLaw", "cs", "([JII)V"⟩ : MethodName) (head1 (Jvm.Cond.code (⟨"com/example/kdata/kdata/LongHeapRemoveLeastPinLaw", "cs", "([JII)V"⟩ : MethodName) method_2_code 5 none :: ws) ({ frames := 0, cells := 0, slots := 0, locals := 0 } : Room)) (fun a U => a = #[(.ref b1), (.int (0 : Int32)), (.int (2 : Int32))] ∧ Z.Warmed39 U.vm ∧ U.heap = h0) (fun _ _ _ _ _ => True) (fun _ U o U' => ∃ v L, o = .returned v ∧ Qc02 Z b1 k1 x0 x1 x2 x3 x4 x5 h0 n0 v U'.heap L ∧ FrameEnd U o U' L ({ frames := 0, cells := 0, slots := 0, locals := 0 } : Room).cells ({ frames := 0, cells := 0, slots := 0, locals := 0 } : Room).slots) := by
  refine MetFree.of_bodySF (plainFor_of_name pn_c02) hisR ?_
  intro p e s m args below meth c s₁ Bd hml0 hP hK
  obtain ⟨rfl, hZ, hh⟩ := hP
  have hx := Bd.exec
  have hby := Bd.bytes
  have hml : c.maxLocals = 5 := hml0
  have hown : s.vm.findClass "com/example/kdata/kdata/LongHeapRemoveLeastPinLaw" = some m.cls := findClass_of_methodNamed Bd.named
  have hnm := (name_of_methodNamed Bd.named Bd.method).1
  have X0 : Stand p l e ({ frames := 0, cells := 0, slots := 0, locals := 0 } : Room) s m #[(.ref b1), (.int (0 : Int32)), (.int (2 : Int32))] below meth c s₁ [] 0 0 := Stand.of_body Bd
  have e0 : s₁.heap = h0 := by rw [← hh, Bd.state]; rfl
  have N0 := Fr.nil n0
  show own_Go p e below s (Qc02 Z b1 k1 x0 x1 x2 x3 x4 x5 h0 n0) ({ frames := 0, cells := 0, slots := 0, locals := 0 } : Room).cells ({ frames := 0, cells := 0, slots := 0, locals := 0 } : Room).slots (s₁.setTop (entryFrame m #[(.ref b1), (.int (0 : Int32)), (.int (2 : Int32))] 5))
  refine own_go (b := s₁.setTop (mkF m 0 #[.val (.ref b1), .val (.int (0 : Int32)), .val (.int (2 : Int32)), .unset, .unset] [])) (fun t k => castTop (ef_c02 m b1 (0 : Int32) (2 : Int32)) k) ?_
  have K0 := Keep.refl h0 [b1]
  obtain ⟨cl1, Ar1, q1, S1, M1, H1, U1⟩ := id V_b1
  have hi2 : ¬ (2 : Int32) < 0 ∧ (2 : Int32).toNatClampNeg < (6 : Int32).toNatClampNeg := by decide
  have ha2 : cl1.slots[(2 : Int32).toNatClampNeg]? = some (.long x2) := H1 _ (by rw [S1]; exact hi2.2)
  have hi3 : ¬ (0 : Int32) < 0 ∧ (0 : Int32).toNatClampNeg < (6 : Int32).toNatClampNeg := by decide
  have ha3 : cl1.slots[(0 : Int32).toNatClampNeg]? = some (.long x0) := H1 _ (by rw [S1]; exact hi3.2)
  refine own_go (b := s₁.setTop (mkF m 7 #[.val (.ref b1), .val (.int (0 : Int32)), .val (.int (2 : Int32)), .unset, .unset] [(.int (lcmpW x2 x0))])) (fun t k => ?_) ?_
  · show Steps p.tables e below (s₁.setTop (mkF m 0 #[.val (.ref b1), .val (.int (0 : Int32)), .val (.int (2 : Int32)), .unset, .unset] [])) _
    refine XS.aloadN X0.here hx rfl (hb hby dC_0) rfl rfl ?_
    show Steps p.tables e below (s₁.setTop (mkF m 1 #[.val (.ref b1), .val (.int (0 : Int32)), .val (.int (2 : Int32)), .unset, .unset] [(.ref b1)])) _
    refine XS.iloadN X0.here hx rfl (hb hby dC_1) rfl ?_
    show Steps p.tables e below (s₁.setTop (mkF m 2 #[.val (.ref b1), .val (.int (0 : Int32)), .val (.int (2 : Int32)), .unset, .unset] [(.int (2 : Int32)), (.ref b1)])) _
    refine X0.laload hx (j := (2 : Int32)) (v := (.long x2)) (by rw [e0]; exact Ar1.1) (State.isArrayOf_alike hZ.alike Ar1.2.1) Ar1.2.2 (own_hin S1 hi2) ha2 (g := (mkF m 2 #[.val (.ref b1), .val (.int (0 : Int32)), .val (.int (2 : Int32)), .unset, .unset] [(.int (2 : Int32)), (.ref b1)])) rfl rfl (hb hby dC_2) _ ?_
    show Steps p.tables e below (s₁.setTop (mkF m 3 #[.val (.ref b1), .val (.int (0 : Int32)), .val (.int (2 : Int32)), .unset, .unset] [(.long x2)])) _
    refine XS.aloadN X0.here hx rfl (hb hby dC_3) rfl rfl ?_
    show Steps p.tables e below (s₁.setTop (mkF m 4 #[.val (.ref b1), .val (.int (0 : Int32)), .val (.int (2 : Int32)), .unset, .unset] [(.ref b1), (.long x2)])) _
    refine XS.iloadN X0.here hx rfl (hb hby dC_4) rfl ?_
    show Steps p.tables e below (s₁.setTop (mkF m 5 #[.val (.ref b1), .val (.int (0 : Int32)), .val (.int (2 : Int32)), .unset, .unset] [(.int (0 : Int32)), (.ref b1), (.long x2)])) _
    refine X0.laload hx (j := (0 : Int32)) (v := (.long x0)) (by rw [e0]; exact Ar1.1) (State.isArrayOf_alike hZ.alike Ar1.2.1) Ar1.2.2 (own_hin S1 hi3) ha3 (g := (mkF m 5 #[.val (.ref b1), .val (.int (0 : Int32)), .val (.int (2 : Int32)), .unset, .unset] [(.int (0 : Int32)), (.ref b1), (.long x2)])) rfl rfl (hb hby dC_5) _ ?_
    show Steps p.tables e below (s₁.setTop (mkF m 6 #[.val (.ref b1), .val (.int (0 : Int32)), .val (.int (2 : Int32)), .unset, .unset] [(.long x0), (.long x2)])) _
    refine XS.lcmp X0.here hx rfl (hb hby dC_6) rfl ?_
    show Steps p.tables e below (s₁.setTop (mkF m 7 #[.val (.ref b1), .val (.int (0 : Int32)), .val (.int (2 : Int32)), .unset, .unset] [(.int (lcmpW x2 x0))])) _
    exact k
  by_cases hc7 : x2 < x0
  · have hi4 : ¬ (0 : Int32) < 0 ∧ (0 : Int32).toNatClampNeg < (6 : Int32).toNatClampNeg := by decide
    have ha4 : cl1.slots[(0 : Int32).toNatClampNeg]? = some (.long x0) := H1 _ (by rw [S1]; exact hi4.2)
    have hi5 : ¬ (2 : Int32) < 0 ∧ (2 : Int32).toNatClampNeg < (6 : Int32).toNatClampNeg := by decide
    have ha5 : cl1.slots[(2 : Int32).toNatClampNeg]? = some (.long x2) := H1 _ (by rw [S1]; exact hi5.2)
    obtain ⟨T6, h6, X6, e6, W6, st6⟩ := stJ X0 hx hZ e0 Ar1 (j := (0 : Int32)) (by rw [S1]; decide) (g := (mkF m 19 #[.val (.ref b1), .val (.int (0 : Int32)), .val (.int (2 : Int32)), .val (.long x0), .second] [(.long x2), (.int (0 : Int32)), (.ref b1)])) rfl rfl (hb hby dC_19)
    have N6 := Fr.snoc X6 N0 lo_b1
    obtain ⟨lc6, X6, N6⟩ := own_lc X6 N6
    have V7 : Arv Z h6 b1 k1 .long (6 : Int32) [(.long x2), (.long x1), (.long x2), (.long x3), (.long x4), (.long x5)] (.long (0 : Int64)) := Arv.set Ar1 q1 S1 M1 H1 U1 rfl W6 0 rfl (by show 0 < 6; decide)
    have K6 := K0.wr W6 (Or.inl (List.mem_of_getElem? (i := 0) rfl))
    have Z6 : n0 ≤ h6.size := by rw [W6.size]; exact Z0
    obtain ⟨cl8, Ar8, q8, S8, M8, H8, U8⟩ := id V7
    obtain ⟨T9, h9, X9, e9, W9, st9⟩ := stJ X6 hx hZ e6 Ar8 (j := (2 : Int32)) (by rw [S8]; decide) (g := (mkF m 23 #[.val (.ref b1), .val (.int (0 : Int32)), .val (.int (2 : Int32)), .val (.long x0), .second] [(.long x0), (.int (2 : Int32)), (.ref b1)])) rfl rfl (hb hby dC_23)
    have N9 := Fr.snoc X9 N6 lo_b1
    obtain ⟨lc9, X9, N9⟩ := own_lc X9 N9
    have V10 : Arv Z h9 b1 k1 .long (6 : Int32) [(.long x2), (.long x1), (.long x0), (.long x3), (.long x4), (.long x5)] (.long (0 : Int64)) := Arv.set Ar8 q8 S8 M8 H8 U8 rfl W9 2 rfl (by show 2 < 6; decide)
    have K9 := K6.wr W9 (Or.inl (List.mem_of_getElem? (i := 0) rfl))
    have Z9 : n0 ≤ h9.size := by rw [W9.size]; exact Z6
    refine own_end X9 Bd.notSynchronized (v := none) (fun _ => rfl) (fun fs hr => ?_) e9 ?_ (by decide) (by decide)
    · show Steps p.tables e below (s₁.setTop (mkF m 7 #[.val (.ref b1), .val (.int (0 : Int32)), .val (.int (2 : Int32)), .unset, .unset] [(.int (lcmpW x2 x0))])) _
      refine XS.ifNo X0.here hx rfl (hb hby dC_7) rfl ((if0 _ _).trans (tlt ((lw_lt x2 x0).mpr hc7)).2.1) ?_
      show Steps p.tables e below (s₁.setTop (mkF m 10 #[.val (.ref b1), .val (.int (0 : Int32)), .val (.int (2 : Int32)), .unset, .unset] [])) _
      refine XS.aloadN X0.here hx rfl (hb hby dC_10) rfl rfl ?_
      show Steps p.tables e below (s₁.setTop (mkF m 11 #[.val (.ref b1), .val (.int (0 : Int32)), .val (.int (2 : Int32)), .unset, .unset] [(.ref b1)])) _
      refine XS.iloadN X0.here hx rfl (hb hby dC_11) rfl ?_
      show Steps p.tables e below (s₁.setTop (mkF m 12 #[.val (.ref b1), .val (.int (0 : Int32)), .val (.int (2 : Int32)), .unset, .unset] [(.int (0 : Int32)), (.ref b1)])) _
      refine X0.laload hx (j := (0 : Int32)) (v := (.long x0)) (by rw [e0]; exact Ar1.1) (State.isArrayOf_alike hZ.alike Ar1.2.1) Ar1.2.2 (own_hin S1 hi4) ha4 (g := (mkF m 12 #[.val (.ref b1), .val (.int (0 : Int32)), .val (.int (2 : Int32)), .unset, .unset] [(.int (0 : Int32)), (.ref b1)])) rfl rfl (hb hby dC_12) _ ?_
      show Steps p.tables e below (s₁.setTop (mkF m 13 #[.val (.ref b1), .val (.int (0 : Int32)), .val (.int (2 : Int32)), .unset, .unset] [(.long x0)])) _
      refine XS.lstoreN X0.here hx rfl (hb hby dC_13) rfl (l' := #[.val (.ref b1), .val (.int (0 : Int32)), .val (.int (2 : Int32)), .val (.long x0), .second]) rfl ?_
      show Steps p.tables e below (s₁.setTop (mkF m 14 #[.val (.ref b1), .val (.int (0 : Int32)), .val (.int (2 : Int32)), .val (.long x0), .second] [])) _
      refine XS.aloadN X0.here hx rfl (hb hby dC_14) rfl rfl ?_
      show Steps p.tables e below (s₁.setTop (mkF m 15 #[.val (.ref b1), .val (.int (0 : Int32)), .val (.int (2 : Int32)), .val (.long x0), .second] [(.ref b1)])) _
      refine XS.iloadN X0.here hx rfl (hb hby dC_15) rfl ?_
      show Steps p.tables e below (s₁.setTop (mkF m 16 #[.val (.ref b1), .val (.int (0 : Int32)), .val (.int (2 : Int32)), .val (.long x0), .second] [(.int (0 : Int32)), (.ref b1)])) _
      refine XS.aloadN X0.here hx rfl (hb hby dC_16) rfl rfl ?_
      show Steps p.tables e below (s₁.setTop (mkF m 17 #[.val (.ref b1), .val (.int (0 : Int32)), .val (.int (2 : Int32)), .val (.long x0), .second] [(.ref b1), (.int (0 : Int32)), (.ref b1)])) _
      refine XS.iloadN X0.here hx rfl (hb hby dC_17) rfl ?_
      show Steps p.tables e below (s₁.setTop (mkF m 18 #[.val (.ref b1), .val (.int (0 : Int32)), .val (.int (2 : Int32)), .val (.long x0), .second] [(.int (2 : Int32)), (.ref b1), (.int (0 : Int32)), (.ref b1)])) _
      refine X0.laload hx (j := (2 : Int32)) (v := (.long x2)) (by rw [e0]; exact Ar1.1) (State.isArrayOf_alike hZ.alike Ar1.2.1) Ar1.2.2 (own_hin S1 hi5) ha5 (g := (mkF m 18 #[.val (.ref b1), .val (.int (0 : Int32)), .val (.int (2 : Int32)), .val (.long x0), .second] [(.int (2 : Int32)), (.ref b1), (.int (0 : Int32)), (.ref b1)])) rfl rfl (hb hby dC_18) _ ?_
      show Steps p.tables e below (s₁.setTop (mkF m 19 #[.val (.ref b1), .val (.int (0 : Int32)), .val (.int (2 : Int32)), .val (.long x0), .second] [(.long x2), (.int (0 : Int32)), (.ref b1)])) _
      refine st6 _ ?_
      show Steps p.tables e below (T6.setTop (mkF m 20 #[.val (.ref b1), .val (.int (0 : Int32)), .val (.int (2 : Int32)), .val (.long x0), .second] [])) _
      refine XS.aloadN X6.here hx rfl (hb hby dC_20) rfl rfl ?_
      show Steps p.tables e below (T6.setTop (mkF m 21 #[.val (.ref b1), .val (.int (0 : Int32)), .val (.int (2 : Int32)), .val (.long x0), .second] [(.ref b1)])) _
      refine XS.iloadN X6.here hx rfl (hb hby dC_21) rfl ?_
      show Steps p.tables e below (T6.setTop (mkF m 22 #[.val (.ref b1), .val (.int (0 : Int32)), .val (.int (2 : Int32)), .val (.long x0), .second] [(.int (2 : Int32)), (.ref b1)])) _
      refine XS.lloadN X6.here hx rfl (hb hby dC_22) rfl ?_
      show Steps p.tables e below (T6.setTop (mkF m 23 #[.val (.ref b1), .val (.int (0 : Int32)), .val (.int (2 : Int32)), .val (.long x0), .second] [(.long x0), (.int (2 : Int32)), (.ref b1)])) _
      refine st9 _ ?_
      show Steps p.tables e below (T9.setTop (mkF m 24 #[.val (.ref b1), .val (.int (0 : Int32)), .val (.int (2 : Int32)), .val (.long x0), .second] [])) _
      exact X9.returnOut hx Bd.returns (hb hby dC_24) hr
    · exact ⟨rfl, N9, K9, _, _, _, _, _, _, by rw [own_cs_02, if_pos hc7], V10⟩
  · refine own_end X0 Bd.notSynchronized (v := none) (fun _ => rfl) (fun fs hr => ?_) e0 ?_ (by decide) (by decide)
    · show Steps p.tables e below (s₁.setTop (mkF m 7 #[.val (.ref b1), .val (.int (0 : Int32)), .val (.int (2 : Int32)), .unset, .unset] [(.int (lcmpW x2 x0))])) _
      refine XS.ifYes X0.here hx rfl (pc0 := 7) (pc' := 24) rfl (hb hby dC_7) rfl ((if0 _ _).trans (flt (fun q => hc7 ((lw_lt x2 x0).mp q))).2.1) (by decide) (by decide) ?_
      show Steps p.tables e below (s₁.setTop (mkF m 24 #[.val (.ref b1), .val (.int (0 : Int32)), .val (.int (2 : Int32)), .unset, .unset] [])) _
      exact X0.returnOut hx Bd.returns (hb hby dC_24) hr
    · exact ⟨rfl, N0, K0, _, _, _, _, _, _, by rw [own_cs_02, if_neg hc7], V_b1⟩
def own_cs_01 (x0 : Int64) (x1 : Int64) (x2 : Int64) (x3 : Int64) (x4 : Int64) (x5 : Int64) : List Int64 :=
  if x1 < x0 then
    [x1, x0, x2, x3, x4, x5]
  else
    [x0, x1, x2, x3, x4, x5]
theorem pn_c01 : plainName "com/example/kdata/kdata/LongHeapRemoveLeastPinLaw" = true := by first | (simp [plainName, overriddenIn]; done) | decide +kernel
theorem ef_c01 (m : MethodId) (x0 : Addr) (x1 : Int32) (x2 : Int32) : entryFrame m #[(.ref x0), (.int x1), (.int x2)] 5 = mkF m 0 #[.val (.ref x0), .val (.int x1), .val (.int x2), .unset, .unset] [] := by first | (simp [entryFrame, mkF, argsToLocals, Value.category]; done) | rfl
def Qc01 (Z : State) (b1 : Addr) (k1 : ClassId) (x0 : Int64) (x1 : Int64) (x2 : Int64) (x3 : Int64) (x4 : Int64) (x5 : Int64) (h0 : Heap) (n0 : Nat) (v : Option Value) (h : Heap) (L : List Loc) : Prop := v = none ∧ Fr n0 L ∧ Keep h0 h [b1] ∧ ∃ z0 z1 z2 z3 z4 z5 : Int64, [z0, z1, z2, z3, z4, z5] = own_cs_01 x0 x1 x2 x3 x4 x5 ∧ Arv Z h b1 k1 .long (6 : Int32) [(.long z0), (.long z1), (.long z2), (.long z3), (.long z4), (.long z5)] (.long (0 : Int64))
set_option maxRecDepth 65536 in
set_option maxHeartbeats 40000000 in
theorem rmc01 (l : Launch) (Z : State) (a0 : Array Value) (hw : ∀ d ∈ tables_1, d.before a0 Z = true) (ws : List Jvm.Cond)  (b1 : Addr) (k1 : ClassId) (x0 : Int64) (x1 : Int64) (x2 : Int64) (x3 : Int64) (x4 : Int64) (x5 : Int64) (h0 : Heap) (n0 : Nat) (Z0 : n0 ≤ h0.size) (V_b1 : Arv Z h0 b1 k1 .long (6 : Int32) [(.long x0), (.long x1), (.long x2), (.long x3), (.long x4), (.long x5)] (.long (0 : Int64))) (lo_b1 : n0 ≤ b1) :
    MetFree l (⟨"com/example/kdata/kdata/LongHeapRemoveLeastPinLaw", "cs", "([JII)V"⟩ : MethodName) (head1 (Jvm.Cond.code (⟨"com/example/kdata/kdata/LongHeapRemoveLeastPinLaw", "cs", "([JII)V"⟩ : MethodName) method_2_code 5 none :: ws) ({ frames := 0, cells := 0, slots := 0, locals := 0 } : Room)) (fun a U => a = #[(.ref b1), (.int (0 : Int32)), (.int (1 : Int32))] ∧ Z.Warmed39 U.vm ∧ U.heap = h0) (fun _ _ _ _ _ => True) (fun _ U o U' => ∃ v L, o = .returned v ∧ Qc01 Z b1 k1 x0 x1 x2 x3 x4 x5 h0 n0 v U'.heap L ∧ FrameEnd U o U' L ({ frames := 0, cells := 0, slots := 0, locals := 0 } : Room).cells ({ frames := 0, cells := 0, slots := 0, locals := 0 } : Room).slots) := by
  refine MetFree.of_bodySF (plainFor_of_name pn_c01) hisR ?_
  intro p e s m args below meth c s₁ Bd hml0 hP hK
  obtain ⟨rfl, hZ, hh⟩ := hP
  have hx := Bd.exec
  have hby := Bd.bytes
  have hml : c.maxLocals = 5 := hml0
  have hown : s.vm.findClass "com/example/kdata/kdata/LongHeapRemoveLeastPinLaw" = some m.cls := findClass_of_methodNamed Bd.named
  have hnm := (name_of_methodNamed Bd.named Bd.method).1
  have X0 : Stand p l e ({ frames := 0, cells := 0, slots := 0, locals := 0 } : Room) s m #[(.ref b1), (.int (0 : Int32)), (.int (1 : Int32))] below meth c s₁ [] 0 0 := Stand.of_body Bd
  have e0 : s₁.heap = h0 := by rw [← hh, Bd.state]; rfl
  have N0 := Fr.nil n0
  show own_Go p e below s (Qc01 Z b1 k1 x0 x1 x2 x3 x4 x5 h0 n0) ({ frames := 0, cells := 0, slots := 0, locals := 0 } : Room).cells ({ frames := 0, cells := 0, slots := 0, locals := 0 } : Room).slots (s₁.setTop (entryFrame m #[(.ref b1), (.int (0 : Int32)), (.int (1 : Int32))] 5))
  refine own_go (b := s₁.setTop (mkF m 0 #[.val (.ref b1), .val (.int (0 : Int32)), .val (.int (1 : Int32)), .unset, .unset] [])) (fun t k => castTop (ef_c01 m b1 (0 : Int32) (1 : Int32)) k) ?_
  have K0 := Keep.refl h0 [b1]
  obtain ⟨cl1, Ar1, q1, S1, M1, H1, U1⟩ := id V_b1
  have hi2 : ¬ (1 : Int32) < 0 ∧ (1 : Int32).toNatClampNeg < (6 : Int32).toNatClampNeg := by decide
  have ha2 : cl1.slots[(1 : Int32).toNatClampNeg]? = some (.long x1) := H1 _ (by rw [S1]; exact hi2.2)
  have hi3 : ¬ (0 : Int32) < 0 ∧ (0 : Int32).toNatClampNeg < (6 : Int32).toNatClampNeg := by decide
  have ha3 : cl1.slots[(0 : Int32).toNatClampNeg]? = some (.long x0) := H1 _ (by rw [S1]; exact hi3.2)
  refine own_go (b := s₁.setTop (mkF m 7 #[.val (.ref b1), .val (.int (0 : Int32)), .val (.int (1 : Int32)), .unset, .unset] [(.int (lcmpW x1 x0))])) (fun t k => ?_) ?_
  · show Steps p.tables e below (s₁.setTop (mkF m 0 #[.val (.ref b1), .val (.int (0 : Int32)), .val (.int (1 : Int32)), .unset, .unset] [])) _
    refine XS.aloadN X0.here hx rfl (hb hby dC_0) rfl rfl ?_
    show Steps p.tables e below (s₁.setTop (mkF m 1 #[.val (.ref b1), .val (.int (0 : Int32)), .val (.int (1 : Int32)), .unset, .unset] [(.ref b1)])) _
    refine XS.iloadN X0.here hx rfl (hb hby dC_1) rfl ?_
    show Steps p.tables e below (s₁.setTop (mkF m 2 #[.val (.ref b1), .val (.int (0 : Int32)), .val (.int (1 : Int32)), .unset, .unset] [(.int (1 : Int32)), (.ref b1)])) _
    refine X0.laload hx (j := (1 : Int32)) (v := (.long x1)) (by rw [e0]; exact Ar1.1) (State.isArrayOf_alike hZ.alike Ar1.2.1) Ar1.2.2 (own_hin S1 hi2) ha2 (g := (mkF m 2 #[.val (.ref b1), .val (.int (0 : Int32)), .val (.int (1 : Int32)), .unset, .unset] [(.int (1 : Int32)), (.ref b1)])) rfl rfl (hb hby dC_2) _ ?_
    show Steps p.tables e below (s₁.setTop (mkF m 3 #[.val (.ref b1), .val (.int (0 : Int32)), .val (.int (1 : Int32)), .unset, .unset] [(.long x1)])) _
    refine XS.aloadN X0.here hx rfl (hb hby dC_3) rfl rfl ?_
    show Steps p.tables e below (s₁.setTop (mkF m 4 #[.val (.ref b1), .val (.int (0 : Int32)), .val (.int (1 : Int32)), .unset, .unset] [(.ref b1), (.long x1)])) _
    refine XS.iloadN X0.here hx rfl (hb hby dC_4) rfl ?_
    show Steps p.tables e below (s₁.setTop (mkF m 5 #[.val (.ref b1), .val (.int (0 : Int32)), .val (.int (1 : Int32)), .unset, .unset] [(.int (0 : Int32)), (.ref b1), (.long x1)])) _
    refine X0.laload hx (j := (0 : Int32)) (v := (.long x0)) (by rw [e0]; exact Ar1.1) (State.isArrayOf_alike hZ.alike Ar1.2.1) Ar1.2.2 (own_hin S1 hi3) ha3 (g := (mkF m 5 #[.val (.ref b1), .val (.int (0 : Int32)), .val (.int (1 : Int32)), .unset, .unset] [(.int (0 : Int32)), (.ref b1), (.long x1)])) rfl rfl (hb hby dC_5) _ ?_
    show Steps p.tables e below (s₁.setTop (mkF m 6 #[.val (.ref b1), .val (.int (0 : Int32)), .val (.int (1 : Int32)), .unset, .unset] [(.long x0), (.long x1)])) _
    refine XS.lcmp X0.here hx rfl (hb hby dC_6) rfl ?_
    show Steps p.tables e below (s₁.setTop (mkF m 7 #[.val (.ref b1), .val (.int (0 : Int32)), .val (.int (1 : Int32)), .unset, .unset] [(.int (lcmpW x1 x0))])) _
    exact k
  by_cases hc7 : x1 < x0
  · have hi4 : ¬ (0 : Int32) < 0 ∧ (0 : Int32).toNatClampNeg < (6 : Int32).toNatClampNeg := by decide
    have ha4 : cl1.slots[(0 : Int32).toNatClampNeg]? = some (.long x0) := H1 _ (by rw [S1]; exact hi4.2)
    have hi5 : ¬ (1 : Int32) < 0 ∧ (1 : Int32).toNatClampNeg < (6 : Int32).toNatClampNeg := by decide
    have ha5 : cl1.slots[(1 : Int32).toNatClampNeg]? = some (.long x1) := H1 _ (by rw [S1]; exact hi5.2)
    obtain ⟨T6, h6, X6, e6, W6, st6⟩ := stJ X0 hx hZ e0 Ar1 (j := (0 : Int32)) (by rw [S1]; decide) (g := (mkF m 19 #[.val (.ref b1), .val (.int (0 : Int32)), .val (.int (1 : Int32)), .val (.long x0), .second] [(.long x1), (.int (0 : Int32)), (.ref b1)])) rfl rfl (hb hby dC_19)
    have N6 := Fr.snoc X6 N0 lo_b1
    obtain ⟨lc6, X6, N6⟩ := own_lc X6 N6
    have V7 : Arv Z h6 b1 k1 .long (6 : Int32) [(.long x1), (.long x1), (.long x2), (.long x3), (.long x4), (.long x5)] (.long (0 : Int64)) := Arv.set Ar1 q1 S1 M1 H1 U1 rfl W6 0 rfl (by show 0 < 6; decide)
    have K6 := K0.wr W6 (Or.inl (List.mem_of_getElem? (i := 0) rfl))
    have Z6 : n0 ≤ h6.size := by rw [W6.size]; exact Z0
    obtain ⟨cl8, Ar8, q8, S8, M8, H8, U8⟩ := id V7
    obtain ⟨T9, h9, X9, e9, W9, st9⟩ := stJ X6 hx hZ e6 Ar8 (j := (1 : Int32)) (by rw [S8]; decide) (g := (mkF m 23 #[.val (.ref b1), .val (.int (0 : Int32)), .val (.int (1 : Int32)), .val (.long x0), .second] [(.long x0), (.int (1 : Int32)), (.ref b1)])) rfl rfl (hb hby dC_23)
    have N9 := Fr.snoc X9 N6 lo_b1
    obtain ⟨lc9, X9, N9⟩ := own_lc X9 N9
    have V10 : Arv Z h9 b1 k1 .long (6 : Int32) [(.long x1), (.long x0), (.long x2), (.long x3), (.long x4), (.long x5)] (.long (0 : Int64)) := Arv.set Ar8 q8 S8 M8 H8 U8 rfl W9 1 rfl (by show 1 < 6; decide)
    have K9 := K6.wr W9 (Or.inl (List.mem_of_getElem? (i := 0) rfl))
    have Z9 : n0 ≤ h9.size := by rw [W9.size]; exact Z6
    refine own_end X9 Bd.notSynchronized (v := none) (fun _ => rfl) (fun fs hr => ?_) e9 ?_ (by decide) (by decide)
    · show Steps p.tables e below (s₁.setTop (mkF m 7 #[.val (.ref b1), .val (.int (0 : Int32)), .val (.int (1 : Int32)), .unset, .unset] [(.int (lcmpW x1 x0))])) _
      refine XS.ifNo X0.here hx rfl (hb hby dC_7) rfl ((if0 _ _).trans (tlt ((lw_lt x1 x0).mpr hc7)).2.1) ?_
      show Steps p.tables e below (s₁.setTop (mkF m 10 #[.val (.ref b1), .val (.int (0 : Int32)), .val (.int (1 : Int32)), .unset, .unset] [])) _
      refine XS.aloadN X0.here hx rfl (hb hby dC_10) rfl rfl ?_
      show Steps p.tables e below (s₁.setTop (mkF m 11 #[.val (.ref b1), .val (.int (0 : Int32)), .val (.int (1 : Int32)), .unset, .unset] [(.ref b1)])) _
      refine XS.iloadN X0.here hx rfl (hb hby dC_11) rfl ?_
      show Steps p.tables e below (s₁.setTop (mkF m 12 #[.val (.ref b1), .val (.int (0 : Int32)), .val (.int (1 : Int32)), .unset, .unset] [(.int (0 : Int32)), (.ref b1)])) _
      refine X0.laload hx (j := (0 : Int32)) (v := (.long x0)) (by rw [e0]; exact Ar1.1) (State.isArrayOf_alike hZ.alike Ar1.2.1) Ar1.2.2 (own_hin S1 hi4) ha4 (g := (mkF m 12 #[.val (.ref b1), .val (.int (0 : Int32)), .val (.int (1 : Int32)), .unset, .unset] [(.int (0 : Int32)), (.ref b1)])) rfl rfl (hb hby dC_12) _ ?_
      show Steps p.tables e below (s₁.setTop (mkF m 13 #[.val (.ref b1), .val (.int (0 : Int32)), .val (.int (1 : Int32)), .unset, .unset] [(.long x0)])) _
      refine XS.lstoreN X0.here hx rfl (hb hby dC_13) rfl (l' := #[.val (.ref b1), .val (.int (0 : Int32)), .val (.int (1 : Int32)), .val (.long x0), .second]) rfl ?_
      show Steps p.tables e below (s₁.setTop (mkF m 14 #[.val (.ref b1), .val (.int (0 : Int32)), .val (.int (1 : Int32)), .val (.long x0), .second] [])) _
      refine XS.aloadN X0.here hx rfl (hb hby dC_14) rfl rfl ?_
      show Steps p.tables e below (s₁.setTop (mkF m 15 #[.val (.ref b1), .val (.int (0 : Int32)), .val (.int (1 : Int32)), .val (.long x0), .second] [(.ref b1)])) _
      refine XS.iloadN X0.here hx rfl (hb hby dC_15) rfl ?_
      show Steps p.tables e below (s₁.setTop (mkF m 16 #[.val (.ref b1), .val (.int (0 : Int32)), .val (.int (1 : Int32)), .val (.long x0), .second] [(.int (0 : Int32)), (.ref b1)])) _
      refine XS.aloadN X0.here hx rfl (hb hby dC_16) rfl rfl ?_
      show Steps p.tables e below (s₁.setTop (mkF m 17 #[.val (.ref b1), .val (.int (0 : Int32)), .val (.int (1 : Int32)), .val (.long x0), .second] [(.ref b1), (.int (0 : Int32)), (.ref b1)])) _
      refine XS.iloadN X0.here hx rfl (hb hby dC_17) rfl ?_
      show Steps p.tables e below (s₁.setTop (mkF m 18 #[.val (.ref b1), .val (.int (0 : Int32)), .val (.int (1 : Int32)), .val (.long x0), .second] [(.int (1 : Int32)), (.ref b1), (.int (0 : Int32)), (.ref b1)])) _
      refine X0.laload hx (j := (1 : Int32)) (v := (.long x1)) (by rw [e0]; exact Ar1.1) (State.isArrayOf_alike hZ.alike Ar1.2.1) Ar1.2.2 (own_hin S1 hi5) ha5 (g := (mkF m 18 #[.val (.ref b1), .val (.int (0 : Int32)), .val (.int (1 : Int32)), .val (.long x0), .second] [(.int (1 : Int32)), (.ref b1), (.int (0 : Int32)), (.ref b1)])) rfl rfl (hb hby dC_18) _ ?_
      show Steps p.tables e below (s₁.setTop (mkF m 19 #[.val (.ref b1), .val (.int (0 : Int32)), .val (.int (1 : Int32)), .val (.long x0), .second] [(.long x1), (.int (0 : Int32)), (.ref b1)])) _
      refine st6 _ ?_
      show Steps p.tables e below (T6.setTop (mkF m 20 #[.val (.ref b1), .val (.int (0 : Int32)), .val (.int (1 : Int32)), .val (.long x0), .second] [])) _
      refine XS.aloadN X6.here hx rfl (hb hby dC_20) rfl rfl ?_
      show Steps p.tables e below (T6.setTop (mkF m 21 #[.val (.ref b1), .val (.int (0 : Int32)), .val (.int (1 : Int32)), .val (.long x0), .second] [(.ref b1)])) _
      refine XS.iloadN X6.here hx rfl (hb hby dC_21) rfl ?_
      show Steps p.tables e below (T6.setTop (mkF m 22 #[.val (.ref b1), .val (.int (0 : Int32)), .val (.int (1 : Int32)), .val (.long x0), .second] [(.int (1 : Int32)), (.ref b1)])) _
      refine XS.lloadN X6.here hx rfl (hb hby dC_22) rfl ?_
      show Steps p.tables e below (T6.setTop (mkF m 23 #[.val (.ref b1), .val (.int (0 : Int32)), .val (.int (1 : Int32)), .val (.long x0), .second] [(.long x0), (.int (1 : Int32)), (.ref b1)])) _
      refine st9 _ ?_
      show Steps p.tables e below (T9.setTop (mkF m 24 #[.val (.ref b1), .val (.int (0 : Int32)), .val (.int (1 : Int32)), .val (.long x0), .second] [])) _
      exact X9.returnOut hx Bd.returns (hb hby dC_24) hr
    · exact ⟨rfl, N9, K9, _, _, _, _, _, _, by rw [own_cs_01, if_pos hc7], V10⟩
  · refine own_end X0 Bd.notSynchronized (v := none) (fun _ => rfl) (fun fs hr => ?_) e0 ?_ (by decide) (by decide)
    · show Steps p.tables e below (s₁.setTop (mkF m 7 #[.val (.ref b1), .val (.int (0 : Int32)), .val (.int (1 : Int32)), .unset, .unset] [(.int (lcmpW x1 x0))])) _
      refine XS.ifYes X0.here hx rfl (pc0 := 7) (pc' := 24) rfl (hb hby dC_7) rfl ((if0 _ _).trans (flt (fun q => hc7 ((lw_lt x1 x0).mp q))).2.1) (by decide) (by decide) ?_
      show Steps p.tables e below (s₁.setTop (mkF m 24 #[.val (.ref b1), .val (.int (0 : Int32)), .val (.int (1 : Int32)), .unset, .unset] [])) _
      exact X0.returnOut hx Bd.returns (hb hby dC_24) hr
    · exact ⟨rfl, N0, K0, _, _, _, _, _, _, by rw [own_cs_01, if_neg hc7], V_b1⟩
def own_cs_45 (x0 : Int64) (x1 : Int64) (x2 : Int64) (x3 : Int64) (x4 : Int64) (x5 : Int64) : List Int64 :=
  if x5 < x4 then
    [x0, x1, x2, x3, x5, x4]
  else
    [x0, x1, x2, x3, x4, x5]
theorem pn_c45 : plainName "com/example/kdata/kdata/LongHeapRemoveLeastPinLaw" = true := by first | (simp [plainName, overriddenIn]; done) | decide +kernel
theorem ef_c45 (m : MethodId) (x0 : Addr) (x1 : Int32) (x2 : Int32) : entryFrame m #[(.ref x0), (.int x1), (.int x2)] 5 = mkF m 0 #[.val (.ref x0), .val (.int x1), .val (.int x2), .unset, .unset] [] := by first | (simp [entryFrame, mkF, argsToLocals, Value.category]; done) | rfl
def Qc45 (Z : State) (b1 : Addr) (k1 : ClassId) (x0 : Int64) (x1 : Int64) (x2 : Int64) (x3 : Int64) (x4 : Int64) (x5 : Int64) (h0 : Heap) (n0 : Nat) (v : Option Value) (h : Heap) (L : List Loc) : Prop := v = none ∧ Fr n0 L ∧ Keep h0 h [b1] ∧ ∃ z0 z1 z2 z3 z4 z5 : Int64, [z0, z1, z2, z3, z4, z5] = own_cs_45 x0 x1 x2 x3 x4 x5 ∧ Arv Z h b1 k1 .long (6 : Int32) [(.long z0), (.long z1), (.long z2), (.long z3), (.long z4), (.long z5)] (.long (0 : Int64))
set_option maxRecDepth 65536 in
set_option maxHeartbeats 40000000 in
theorem rmc45 (l : Launch) (Z : State) (a0 : Array Value) (hw : ∀ d ∈ tables_1, d.before a0 Z = true) (ws : List Jvm.Cond)  (b1 : Addr) (k1 : ClassId) (x0 : Int64) (x1 : Int64) (x2 : Int64) (x3 : Int64) (x4 : Int64) (x5 : Int64) (h0 : Heap) (n0 : Nat) (Z0 : n0 ≤ h0.size) (V_b1 : Arv Z h0 b1 k1 .long (6 : Int32) [(.long x0), (.long x1), (.long x2), (.long x3), (.long x4), (.long x5)] (.long (0 : Int64))) (lo_b1 : n0 ≤ b1) :
    MetFree l (⟨"com/example/kdata/kdata/LongHeapRemoveLeastPinLaw", "cs", "([JII)V"⟩ : MethodName) (head1 (Jvm.Cond.code (⟨"com/example/kdata/kdata/LongHeapRemoveLeastPinLaw", "cs", "([JII)V"⟩ : MethodName) method_2_code 5 none :: ws) ({ frames := 0, cells := 0, slots := 0, locals := 0 } : Room)) (fun a U => a = #[(.ref b1), (.int (4 : Int32)), (.int (5 : Int32))] ∧ Z.Warmed39 U.vm ∧ U.heap = h0) (fun _ _ _ _ _ => True) (fun _ U o U' => ∃ v L, o = .returned v ∧ Qc45 Z b1 k1 x0 x1 x2 x3 x4 x5 h0 n0 v U'.heap L ∧ FrameEnd U o U' L ({ frames := 0, cells := 0, slots := 0, locals := 0 } : Room).cells ({ frames := 0, cells := 0, slots := 0, locals := 0 } : Room).slots) := by
  refine MetFree.of_bodySF (plainFor_of_name pn_c45) hisR ?_
  intro p e s m args below meth c s₁ Bd hml0 hP hK
  obtain ⟨rfl, hZ, hh⟩ := hP
  have hx := Bd.exec
  have hby := Bd.bytes
  have hml : c.maxLocals = 5 := hml0
  have hown : s.vm.findClass "com/example/kdata/kdata/LongHeapRemoveLeastPinLaw" = some m.cls := findClass_of_methodNamed Bd.named
  have hnm := (name_of_methodNamed Bd.named Bd.method).1
  have X0 : Stand p l e ({ frames := 0, cells := 0, slots := 0, locals := 0 } : Room) s m #[(.ref b1), (.int (4 : Int32)), (.int (5 : Int32))] below meth c s₁ [] 0 0 := Stand.of_body Bd
  have e0 : s₁.heap = h0 := by rw [← hh, Bd.state]; rfl
  have N0 := Fr.nil n0
  show own_Go p e below s (Qc45 Z b1 k1 x0 x1 x2 x3 x4 x5 h0 n0) ({ frames := 0, cells := 0, slots := 0, locals := 0 } : Room).cells ({ frames := 0, cells := 0, slots := 0, locals := 0 } : Room).slots (s₁.setTop (entryFrame m #[(.ref b1), (.int (4 : Int32)), (.int (5 : Int32))] 5))
  refine own_go (b := s₁.setTop (mkF m 0 #[.val (.ref b1), .val (.int (4 : Int32)), .val (.int (5 : Int32)), .unset, .unset] [])) (fun t k => castTop (ef_c45 m b1 (4 : Int32) (5 : Int32)) k) ?_
  have K0 := Keep.refl h0 [b1]
  obtain ⟨cl1, Ar1, q1, S1, M1, H1, U1⟩ := id V_b1
  have hi2 : ¬ (5 : Int32) < 0 ∧ (5 : Int32).toNatClampNeg < (6 : Int32).toNatClampNeg := by decide
  have ha2 : cl1.slots[(5 : Int32).toNatClampNeg]? = some (.long x5) := H1 _ (by rw [S1]; exact hi2.2)
  have hi3 : ¬ (4 : Int32) < 0 ∧ (4 : Int32).toNatClampNeg < (6 : Int32).toNatClampNeg := by decide
  have ha3 : cl1.slots[(4 : Int32).toNatClampNeg]? = some (.long x4) := H1 _ (by rw [S1]; exact hi3.2)
  refine own_go (b := s₁.setTop (mkF m 7 #[.val (.ref b1), .val (.int (4 : Int32)), .val (.int (5 : Int32)), .unset, .unset] [(.int (lcmpW x5 x4))])) (fun t k => ?_) ?_
  · show Steps p.tables e below (s₁.setTop (mkF m 0 #[.val (.ref b1), .val (.int (4 : Int32)), .val (.int (5 : Int32)), .unset, .unset] [])) _
    refine XS.aloadN X0.here hx rfl (hb hby dC_0) rfl rfl ?_
    show Steps p.tables e below (s₁.setTop (mkF m 1 #[.val (.ref b1), .val (.int (4 : Int32)), .val (.int (5 : Int32)), .unset, .unset] [(.ref b1)])) _
    refine XS.iloadN X0.here hx rfl (hb hby dC_1) rfl ?_
    show Steps p.tables e below (s₁.setTop (mkF m 2 #[.val (.ref b1), .val (.int (4 : Int32)), .val (.int (5 : Int32)), .unset, .unset] [(.int (5 : Int32)), (.ref b1)])) _
    refine X0.laload hx (j := (5 : Int32)) (v := (.long x5)) (by rw [e0]; exact Ar1.1) (State.isArrayOf_alike hZ.alike Ar1.2.1) Ar1.2.2 (own_hin S1 hi2) ha2 (g := (mkF m 2 #[.val (.ref b1), .val (.int (4 : Int32)), .val (.int (5 : Int32)), .unset, .unset] [(.int (5 : Int32)), (.ref b1)])) rfl rfl (hb hby dC_2) _ ?_
    show Steps p.tables e below (s₁.setTop (mkF m 3 #[.val (.ref b1), .val (.int (4 : Int32)), .val (.int (5 : Int32)), .unset, .unset] [(.long x5)])) _
    refine XS.aloadN X0.here hx rfl (hb hby dC_3) rfl rfl ?_
    show Steps p.tables e below (s₁.setTop (mkF m 4 #[.val (.ref b1), .val (.int (4 : Int32)), .val (.int (5 : Int32)), .unset, .unset] [(.ref b1), (.long x5)])) _
    refine XS.iloadN X0.here hx rfl (hb hby dC_4) rfl ?_
    show Steps p.tables e below (s₁.setTop (mkF m 5 #[.val (.ref b1), .val (.int (4 : Int32)), .val (.int (5 : Int32)), .unset, .unset] [(.int (4 : Int32)), (.ref b1), (.long x5)])) _
    refine X0.laload hx (j := (4 : Int32)) (v := (.long x4)) (by rw [e0]; exact Ar1.1) (State.isArrayOf_alike hZ.alike Ar1.2.1) Ar1.2.2 (own_hin S1 hi3) ha3 (g := (mkF m 5 #[.val (.ref b1), .val (.int (4 : Int32)), .val (.int (5 : Int32)), .unset, .unset] [(.int (4 : Int32)), (.ref b1), (.long x5)])) rfl rfl (hb hby dC_5) _ ?_
    show Steps p.tables e below (s₁.setTop (mkF m 6 #[.val (.ref b1), .val (.int (4 : Int32)), .val (.int (5 : Int32)), .unset, .unset] [(.long x4), (.long x5)])) _
    refine XS.lcmp X0.here hx rfl (hb hby dC_6) rfl ?_
    show Steps p.tables e below (s₁.setTop (mkF m 7 #[.val (.ref b1), .val (.int (4 : Int32)), .val (.int (5 : Int32)), .unset, .unset] [(.int (lcmpW x5 x4))])) _
    exact k
  by_cases hc7 : x5 < x4
  · have hi4 : ¬ (4 : Int32) < 0 ∧ (4 : Int32).toNatClampNeg < (6 : Int32).toNatClampNeg := by decide
    have ha4 : cl1.slots[(4 : Int32).toNatClampNeg]? = some (.long x4) := H1 _ (by rw [S1]; exact hi4.2)
    have hi5 : ¬ (5 : Int32) < 0 ∧ (5 : Int32).toNatClampNeg < (6 : Int32).toNatClampNeg := by decide
    have ha5 : cl1.slots[(5 : Int32).toNatClampNeg]? = some (.long x5) := H1 _ (by rw [S1]; exact hi5.2)
    obtain ⟨T6, h6, X6, e6, W6, st6⟩ := stJ X0 hx hZ e0 Ar1 (j := (4 : Int32)) (by rw [S1]; decide) (g := (mkF m 19 #[.val (.ref b1), .val (.int (4 : Int32)), .val (.int (5 : Int32)), .val (.long x4), .second] [(.long x5), (.int (4 : Int32)), (.ref b1)])) rfl rfl (hb hby dC_19)
    have N6 := Fr.snoc X6 N0 lo_b1
    obtain ⟨lc6, X6, N6⟩ := own_lc X6 N6
    have V7 : Arv Z h6 b1 k1 .long (6 : Int32) [(.long x0), (.long x1), (.long x2), (.long x3), (.long x5), (.long x5)] (.long (0 : Int64)) := Arv.set Ar1 q1 S1 M1 H1 U1 rfl W6 4 rfl (by show 4 < 6; decide)
    have K6 := K0.wr W6 (Or.inl (List.mem_of_getElem? (i := 0) rfl))
    have Z6 : n0 ≤ h6.size := by rw [W6.size]; exact Z0
    obtain ⟨cl8, Ar8, q8, S8, M8, H8, U8⟩ := id V7
    obtain ⟨T9, h9, X9, e9, W9, st9⟩ := stJ X6 hx hZ e6 Ar8 (j := (5 : Int32)) (by rw [S8]; decide) (g := (mkF m 23 #[.val (.ref b1), .val (.int (4 : Int32)), .val (.int (5 : Int32)), .val (.long x4), .second] [(.long x4), (.int (5 : Int32)), (.ref b1)])) rfl rfl (hb hby dC_23)
    have N9 := Fr.snoc X9 N6 lo_b1
    obtain ⟨lc9, X9, N9⟩ := own_lc X9 N9
    have V10 : Arv Z h9 b1 k1 .long (6 : Int32) [(.long x0), (.long x1), (.long x2), (.long x3), (.long x5), (.long x4)] (.long (0 : Int64)) := Arv.set Ar8 q8 S8 M8 H8 U8 rfl W9 5 rfl (by show 5 < 6; decide)
    have K9 := K6.wr W9 (Or.inl (List.mem_of_getElem? (i := 0) rfl))
    have Z9 : n0 ≤ h9.size := by rw [W9.size]; exact Z6
    refine own_end X9 Bd.notSynchronized (v := none) (fun _ => rfl) (fun fs hr => ?_) e9 ?_ (by decide) (by decide)
    · show Steps p.tables e below (s₁.setTop (mkF m 7 #[.val (.ref b1), .val (.int (4 : Int32)), .val (.int (5 : Int32)), .unset, .unset] [(.int (lcmpW x5 x4))])) _
      refine XS.ifNo X0.here hx rfl (hb hby dC_7) rfl ((if0 _ _).trans (tlt ((lw_lt x5 x4).mpr hc7)).2.1) ?_
      show Steps p.tables e below (s₁.setTop (mkF m 10 #[.val (.ref b1), .val (.int (4 : Int32)), .val (.int (5 : Int32)), .unset, .unset] [])) _
      refine XS.aloadN X0.here hx rfl (hb hby dC_10) rfl rfl ?_
      show Steps p.tables e below (s₁.setTop (mkF m 11 #[.val (.ref b1), .val (.int (4 : Int32)), .val (.int (5 : Int32)), .unset, .unset] [(.ref b1)])) _
      refine XS.iloadN X0.here hx rfl (hb hby dC_11) rfl ?_
      show Steps p.tables e below (s₁.setTop (mkF m 12 #[.val (.ref b1), .val (.int (4 : Int32)), .val (.int (5 : Int32)), .unset, .unset] [(.int (4 : Int32)), (.ref b1)])) _
      refine X0.laload hx (j := (4 : Int32)) (v := (.long x4)) (by rw [e0]; exact Ar1.1) (State.isArrayOf_alike hZ.alike Ar1.2.1) Ar1.2.2 (own_hin S1 hi4) ha4 (g := (mkF m 12 #[.val (.ref b1), .val (.int (4 : Int32)), .val (.int (5 : Int32)), .unset, .unset] [(.int (4 : Int32)), (.ref b1)])) rfl rfl (hb hby dC_12) _ ?_
      show Steps p.tables e below (s₁.setTop (mkF m 13 #[.val (.ref b1), .val (.int (4 : Int32)), .val (.int (5 : Int32)), .unset, .unset] [(.long x4)])) _
      refine XS.lstoreN X0.here hx rfl (hb hby dC_13) rfl (l' := #[.val (.ref b1), .val (.int (4 : Int32)), .val (.int (5 : Int32)), .val (.long x4), .second]) rfl ?_
      show Steps p.tables e below (s₁.setTop (mkF m 14 #[.val (.ref b1), .val (.int (4 : Int32)), .val (.int (5 : Int32)), .val (.long x4), .second] [])) _
      refine XS.aloadN X0.here hx rfl (hb hby dC_14) rfl rfl ?_
      show Steps p.tables e below (s₁.setTop (mkF m 15 #[.val (.ref b1), .val (.int (4 : Int32)), .val (.int (5 : Int32)), .val (.long x4), .second] [(.ref b1)])) _
      refine XS.iloadN X0.here hx rfl (hb hby dC_15) rfl ?_
      show Steps p.tables e below (s₁.setTop (mkF m 16 #[.val (.ref b1), .val (.int (4 : Int32)), .val (.int (5 : Int32)), .val (.long x4), .second] [(.int (4 : Int32)), (.ref b1)])) _
      refine XS.aloadN X0.here hx rfl (hb hby dC_16) rfl rfl ?_
      show Steps p.tables e below (s₁.setTop (mkF m 17 #[.val (.ref b1), .val (.int (4 : Int32)), .val (.int (5 : Int32)), .val (.long x4), .second] [(.ref b1), (.int (4 : Int32)), (.ref b1)])) _
      refine XS.iloadN X0.here hx rfl (hb hby dC_17) rfl ?_
      show Steps p.tables e below (s₁.setTop (mkF m 18 #[.val (.ref b1), .val (.int (4 : Int32)), .val (.int (5 : Int32)), .val (.long x4), .second] [(.int (5 : Int32)), (.ref b1), (.int (4 : Int32)), (.ref b1)])) _
      refine X0.laload hx (j := (5 : Int32)) (v := (.long x5)) (by rw [e0]; exact Ar1.1) (State.isArrayOf_alike hZ.alike Ar1.2.1) Ar1.2.2 (own_hin S1 hi5) ha5 (g := (mkF m 18 #[.val (.ref b1), .val (.int (4 : Int32)), .val (.int (5 : Int32)), .val (.long x4), .second] [(.int (5 : Int32)), (.ref b1), (.int (4 : Int32)), (.ref b1)])) rfl rfl (hb hby dC_18) _ ?_
      show Steps p.tables e below (s₁.setTop (mkF m 19 #[.val (.ref b1), .val (.int (4 : Int32)), .val (.int (5 : Int32)), .val (.long x4), .second] [(.long x5), (.int (4 : Int32)), (.ref b1)])) _
      refine st6 _ ?_
      show Steps p.tables e below (T6.setTop (mkF m 20 #[.val (.ref b1), .val (.int (4 : Int32)), .val (.int (5 : Int32)), .val (.long x4), .second] [])) _
      refine XS.aloadN X6.here hx rfl (hb hby dC_20) rfl rfl ?_
      show Steps p.tables e below (T6.setTop (mkF m 21 #[.val (.ref b1), .val (.int (4 : Int32)), .val (.int (5 : Int32)), .val (.long x4), .second] [(.ref b1)])) _
      refine XS.iloadN X6.here hx rfl (hb hby dC_21) rfl ?_
      show Steps p.tables e below (T6.setTop (mkF m 22 #[.val (.ref b1), .val (.int (4 : Int32)), .val (.int (5 : Int32)), .val (.long x4), .second] [(.int (5 : Int32)), (.ref b1)])) _
      refine XS.lloadN X6.here hx rfl (hb hby dC_22) rfl ?_
      show Steps p.tables e below (T6.setTop (mkF m 23 #[.val (.ref b1), .val (.int (4 : Int32)), .val (.int (5 : Int32)), .val (.long x4), .second] [(.long x4), (.int (5 : Int32)), (.ref b1)])) _
      refine st9 _ ?_
      show Steps p.tables e below (T9.setTop (mkF m 24 #[.val (.ref b1), .val (.int (4 : Int32)), .val (.int (5 : Int32)), .val (.long x4), .second] [])) _
      exact X9.returnOut hx Bd.returns (hb hby dC_24) hr
    · exact ⟨rfl, N9, K9, _, _, _, _, _, _, by rw [own_cs_45, if_pos hc7], V10⟩
  · refine own_end X0 Bd.notSynchronized (v := none) (fun _ => rfl) (fun fs hr => ?_) e0 ?_ (by decide) (by decide)
    · show Steps p.tables e below (s₁.setTop (mkF m 7 #[.val (.ref b1), .val (.int (4 : Int32)), .val (.int (5 : Int32)), .unset, .unset] [(.int (lcmpW x5 x4))])) _
      refine XS.ifYes X0.here hx rfl (pc0 := 7) (pc' := 24) rfl (hb hby dC_7) rfl ((if0 _ _).trans (flt (fun q => hc7 ((lw_lt x5 x4).mp q))).2.1) (by decide) (by decide) ?_
      show Steps p.tables e below (s₁.setTop (mkF m 24 #[.val (.ref b1), .val (.int (4 : Int32)), .val (.int (5 : Int32)), .unset, .unset] [])) _
      exact X0.returnOut hx Bd.returns (hb hby dC_24) hr
    · exact ⟨rfl, N0, K0, _, _, _, _, _, _, by rw [own_cs_45, if_neg hc7], V_b1⟩
def own_cs_35 (x0 : Int64) (x1 : Int64) (x2 : Int64) (x3 : Int64) (x4 : Int64) (x5 : Int64) : List Int64 :=
  if x5 < x3 then
    [x0, x1, x2, x5, x4, x3]
  else
    [x0, x1, x2, x3, x4, x5]
theorem pn_c35 : plainName "com/example/kdata/kdata/LongHeapRemoveLeastPinLaw" = true := by first | (simp [plainName, overriddenIn]; done) | decide +kernel
theorem ef_c35 (m : MethodId) (x0 : Addr) (x1 : Int32) (x2 : Int32) : entryFrame m #[(.ref x0), (.int x1), (.int x2)] 5 = mkF m 0 #[.val (.ref x0), .val (.int x1), .val (.int x2), .unset, .unset] [] := by first | (simp [entryFrame, mkF, argsToLocals, Value.category]; done) | rfl
def Qc35 (Z : State) (b1 : Addr) (k1 : ClassId) (x0 : Int64) (x1 : Int64) (x2 : Int64) (x3 : Int64) (x4 : Int64) (x5 : Int64) (h0 : Heap) (n0 : Nat) (v : Option Value) (h : Heap) (L : List Loc) : Prop := v = none ∧ Fr n0 L ∧ Keep h0 h [b1] ∧ ∃ z0 z1 z2 z3 z4 z5 : Int64, [z0, z1, z2, z3, z4, z5] = own_cs_35 x0 x1 x2 x3 x4 x5 ∧ Arv Z h b1 k1 .long (6 : Int32) [(.long z0), (.long z1), (.long z2), (.long z3), (.long z4), (.long z5)] (.long (0 : Int64))
set_option maxRecDepth 65536 in
set_option maxHeartbeats 40000000 in
theorem rmc35 (l : Launch) (Z : State) (a0 : Array Value) (hw : ∀ d ∈ tables_1, d.before a0 Z = true) (ws : List Jvm.Cond)  (b1 : Addr) (k1 : ClassId) (x0 : Int64) (x1 : Int64) (x2 : Int64) (x3 : Int64) (x4 : Int64) (x5 : Int64) (h0 : Heap) (n0 : Nat) (Z0 : n0 ≤ h0.size) (V_b1 : Arv Z h0 b1 k1 .long (6 : Int32) [(.long x0), (.long x1), (.long x2), (.long x3), (.long x4), (.long x5)] (.long (0 : Int64))) (lo_b1 : n0 ≤ b1) :
    MetFree l (⟨"com/example/kdata/kdata/LongHeapRemoveLeastPinLaw", "cs", "([JII)V"⟩ : MethodName) (head1 (Jvm.Cond.code (⟨"com/example/kdata/kdata/LongHeapRemoveLeastPinLaw", "cs", "([JII)V"⟩ : MethodName) method_2_code 5 none :: ws) ({ frames := 0, cells := 0, slots := 0, locals := 0 } : Room)) (fun a U => a = #[(.ref b1), (.int (3 : Int32)), (.int (5 : Int32))] ∧ Z.Warmed39 U.vm ∧ U.heap = h0) (fun _ _ _ _ _ => True) (fun _ U o U' => ∃ v L, o = .returned v ∧ Qc35 Z b1 k1 x0 x1 x2 x3 x4 x5 h0 n0 v U'.heap L ∧ FrameEnd U o U' L ({ frames := 0, cells := 0, slots := 0, locals := 0 } : Room).cells ({ frames := 0, cells := 0, slots := 0, locals := 0 } : Room).slots) := by
  refine MetFree.of_bodySF (plainFor_of_name pn_c35) hisR ?_
  intro p e s m args below meth c s₁ Bd hml0 hP hK
  obtain ⟨rfl, hZ, hh⟩ := hP
  have hx := Bd.exec
  have hby := Bd.bytes
  have hml : c.maxLocals = 5 := hml0
  have hown : s.vm.findClass "com/example/kdata/kdata/LongHeapRemoveLeastPinLaw" = some m.cls := findClass_of_methodNamed Bd.named
  have hnm := (name_of_methodNamed Bd.named Bd.method).1
  have X0 : Stand p l e ({ frames := 0, cells := 0, slots := 0, locals := 0 } : Room) s m #[(.ref b1), (.int (3 : Int32)), (.int (5 : Int32))] below meth c s₁ [] 0 0 := Stand.of_body Bd
  have e0 : s₁.heap = h0 := by rw [← hh, Bd.state]; rfl
  have N0 := Fr.nil n0
  show own_Go p e below s (Qc35 Z b1 k1 x0 x1 x2 x3 x4 x5 h0 n0) ({ frames := 0, cells := 0, slots := 0, locals := 0 } : Room).cells ({ frames := 0, cells := 0, slots := 0, locals := 0 } : Room).slots (s₁.setTop (entryFrame m #[(.ref b1), (.int (3 : Int32)), (.int (5 : Int32))] 5))
  refine own_go (b := s₁.setTop (mkF m 0 #[.val (.ref b1), .val (.int (3 : Int32)), .val (.int (5 : Int32)), .unset, .unset] [])) (fun t k => castTop (ef_c35 m b1 (3 : Int32) (5 : Int32)) k) ?_
  have K0 := Keep.refl h0 [b1]
  obtain ⟨cl1, Ar1, q1, S1, M1, H1, U1⟩ := id V_b1
  have hi2 : ¬ (5 : Int32) < 0 ∧ (5 : Int32).toNatClampNeg < (6 : Int32).toNatClampNeg := by decide
  have ha2 : cl1.slots[(5 : Int32).toNatClampNeg]? = some (.long x5) := H1 _ (by rw [S1]; exact hi2.2)
  have hi3 : ¬ (3 : Int32) < 0 ∧ (3 : Int32).toNatClampNeg < (6 : Int32).toNatClampNeg := by decide
  have ha3 : cl1.slots[(3 : Int32).toNatClampNeg]? = some (.long x3) := H1 _ (by rw [S1]; exact hi3.2)
  refine own_go (b := s₁.setTop (mkF m 7 #[.val (.ref b1), .val (.int (3 : Int32)), .val (.int (5 : Int32)), .unset, .unset] [(.int (lcmpW x5 x3))])) (fun t k => ?_) ?_
  · show Steps p.tables e below (s₁.setTop (mkF m 0 #[.val (.ref b1), .val (.int (3 : Int32)), .val (.int (5 : Int32)), .unset, .unset] [])) _
    refine XS.aloadN X0.here hx rfl (hb hby dC_0) rfl rfl ?_
    show Steps p.tables e below (s₁.setTop (mkF m 1 #[.val (.ref b1), .val (.int (3 : Int32)), .val (.int (5 : Int32)), .unset, .unset] [(.ref b1)])) _
    refine XS.iloadN X0.here hx rfl (hb hby dC_1) rfl ?_
    show Steps p.tables e below (s₁.setTop (mkF m 2 #[.val (.ref b1), .val (.int (3 : Int32)), .val (.int (5 : Int32)), .unset, .unset] [(.int (5 : Int32)), (.ref b1)])) _
    refine X0.laload hx (j := (5 : Int32)) (v := (.long x5)) (by rw [e0]; exact Ar1.1) (State.isArrayOf_alike hZ.alike Ar1.2.1) Ar1.2.2 (own_hin S1 hi2) ha2 (g := (mkF m 2 #[.val (.ref b1), .val (.int (3 : Int32)), .val (.int (5 : Int32)), .unset, .unset] [(.int (5 : Int32)), (.ref b1)])) rfl rfl (hb hby dC_2) _ ?_
    show Steps p.tables e below (s₁.setTop (mkF m 3 #[.val (.ref b1), .val (.int (3 : Int32)), .val (.int (5 : Int32)), .unset, .unset] [(.long x5)])) _
    refine XS.aloadN X0.here hx rfl (hb hby dC_3) rfl rfl ?_
    show Steps p.tables e below (s₁.setTop (mkF m 4 #[.val (.ref b1), .val (.int (3 : Int32)), .val (.int (5 : Int32)), .unset, .unset] [(.ref b1), (.long x5)])) _
    refine XS.iloadN X0.here hx rfl (hb hby dC_4) rfl ?_
    show Steps p.tables e below (s₁.setTop (mkF m 5 #[.val (.ref b1), .val (.int (3 : Int32)), .val (.int (5 : Int32)), .unset, .unset] [(.int (3 : Int32)), (.ref b1), (.long x5)])) _
    refine X0.laload hx (j := (3 : Int32)) (v := (.long x3)) (by rw [e0]; exact Ar1.1) (State.isArrayOf_alike hZ.alike Ar1.2.1) Ar1.2.2 (own_hin S1 hi3) ha3 (g := (mkF m 5 #[.val (.ref b1), .val (.int (3 : Int32)), .val (.int (5 : Int32)), .unset, .unset] [(.int (3 : Int32)), (.ref b1), (.long x5)])) rfl rfl (hb hby dC_5) _ ?_
    show Steps p.tables e below (s₁.setTop (mkF m 6 #[.val (.ref b1), .val (.int (3 : Int32)), .val (.int (5 : Int32)), .unset, .unset] [(.long x3), (.long x5)])) _
    refine XS.lcmp X0.here hx rfl (hb hby dC_6) rfl ?_
    show Steps p.tables e below (s₁.setTop (mkF m 7 #[.val (.ref b1), .val (.int (3 : Int32)), .val (.int (5 : Int32)), .unset, .unset] [(.int (lcmpW x5 x3))])) _
    exact k
  by_cases hc7 : x5 < x3
  · have hi4 : ¬ (3 : Int32) < 0 ∧ (3 : Int32).toNatClampNeg < (6 : Int32).toNatClampNeg := by decide
    have ha4 : cl1.slots[(3 : Int32).toNatClampNeg]? = some (.long x3) := H1 _ (by rw [S1]; exact hi4.2)
    have hi5 : ¬ (5 : Int32) < 0 ∧ (5 : Int32).toNatClampNeg < (6 : Int32).toNatClampNeg := by decide
    have ha5 : cl1.slots[(5 : Int32).toNatClampNeg]? = some (.long x5) := H1 _ (by rw [S1]; exact hi5.2)
    obtain ⟨T6, h6, X6, e6, W6, st6⟩ := stJ X0 hx hZ e0 Ar1 (j := (3 : Int32)) (by rw [S1]; decide) (g := (mkF m 19 #[.val (.ref b1), .val (.int (3 : Int32)), .val (.int (5 : Int32)), .val (.long x3), .second] [(.long x5), (.int (3 : Int32)), (.ref b1)])) rfl rfl (hb hby dC_19)
    have N6 := Fr.snoc X6 N0 lo_b1
    obtain ⟨lc6, X6, N6⟩ := own_lc X6 N6
    have V7 : Arv Z h6 b1 k1 .long (6 : Int32) [(.long x0), (.long x1), (.long x2), (.long x5), (.long x4), (.long x5)] (.long (0 : Int64)) := Arv.set Ar1 q1 S1 M1 H1 U1 rfl W6 3 rfl (by show 3 < 6; decide)
    have K6 := K0.wr W6 (Or.inl (List.mem_of_getElem? (i := 0) rfl))
    have Z6 : n0 ≤ h6.size := by rw [W6.size]; exact Z0
    obtain ⟨cl8, Ar8, q8, S8, M8, H8, U8⟩ := id V7
    obtain ⟨T9, h9, X9, e9, W9, st9⟩ := stJ X6 hx hZ e6 Ar8 (j := (5 : Int32)) (by rw [S8]; decide) (g := (mkF m 23 #[.val (.ref b1), .val (.int (3 : Int32)), .val (.int (5 : Int32)), .val (.long x3), .second] [(.long x3), (.int (5 : Int32)), (.ref b1)])) rfl rfl (hb hby dC_23)
    have N9 := Fr.snoc X9 N6 lo_b1
    obtain ⟨lc9, X9, N9⟩ := own_lc X9 N9
    have V10 : Arv Z h9 b1 k1 .long (6 : Int32) [(.long x0), (.long x1), (.long x2), (.long x5), (.long x4), (.long x3)] (.long (0 : Int64)) := Arv.set Ar8 q8 S8 M8 H8 U8 rfl W9 5 rfl (by show 5 < 6; decide)
    have K9 := K6.wr W9 (Or.inl (List.mem_of_getElem? (i := 0) rfl))
    have Z9 : n0 ≤ h9.size := by rw [W9.size]; exact Z6
    refine own_end X9 Bd.notSynchronized (v := none) (fun _ => rfl) (fun fs hr => ?_) e9 ?_ (by decide) (by decide)
    · show Steps p.tables e below (s₁.setTop (mkF m 7 #[.val (.ref b1), .val (.int (3 : Int32)), .val (.int (5 : Int32)), .unset, .unset] [(.int (lcmpW x5 x3))])) _
      refine XS.ifNo X0.here hx rfl (hb hby dC_7) rfl ((if0 _ _).trans (tlt ((lw_lt x5 x3).mpr hc7)).2.1) ?_
      show Steps p.tables e below (s₁.setTop (mkF m 10 #[.val (.ref b1), .val (.int (3 : Int32)), .val (.int (5 : Int32)), .unset, .unset] [])) _
      refine XS.aloadN X0.here hx rfl (hb hby dC_10) rfl rfl ?_
      show Steps p.tables e below (s₁.setTop (mkF m 11 #[.val (.ref b1), .val (.int (3 : Int32)), .val (.int (5 : Int32)), .unset, .unset] [(.ref b1)])) _
      refine XS.iloadN X0.here hx rfl (hb hby dC_11) rfl ?_
      show Steps p.tables e below (s₁.setTop (mkF m 12 #[.val (.ref b1), .val (.int (3 : Int32)), .val (.int (5 : Int32)), .unset, .unset] [(.int (3 : Int32)), (.ref b1)])) _
      refine X0.laload hx (j := (3 : Int32)) (v := (.long x3)) (by rw [e0]; exact Ar1.1) (State.isArrayOf_alike hZ.alike Ar1.2.1) Ar1.2.2 (own_hin S1 hi4) ha4 (g := (mkF m 12 #[.val (.ref b1), .val (.int (3 : Int32)), .val (.int (5 : Int32)), .unset, .unset] [(.int (3 : Int32)), (.ref b1)])) rfl rfl (hb hby dC_12) _ ?_
      show Steps p.tables e below (s₁.setTop (mkF m 13 #[.val (.ref b1), .val (.int (3 : Int32)), .val (.int (5 : Int32)), .unset, .unset] [(.long x3)])) _
      refine XS.lstoreN X0.here hx rfl (hb hby dC_13) rfl (l' := #[.val (.ref b1), .val (.int (3 : Int32)), .val (.int (5 : Int32)), .val (.long x3), .second]) rfl ?_
      show Steps p.tables e below (s₁.setTop (mkF m 14 #[.val (.ref b1), .val (.int (3 : Int32)), .val (.int (5 : Int32)), .val (.long x3), .second] [])) _
      refine XS.aloadN X0.here hx rfl (hb hby dC_14) rfl rfl ?_
      show Steps p.tables e below (s₁.setTop (mkF m 15 #[.val (.ref b1), .val (.int (3 : Int32)), .val (.int (5 : Int32)), .val (.long x3), .second] [(.ref b1)])) _
      refine XS.iloadN X0.here hx rfl (hb hby dC_15) rfl ?_
      show Steps p.tables e below (s₁.setTop (mkF m 16 #[.val (.ref b1), .val (.int (3 : Int32)), .val (.int (5 : Int32)), .val (.long x3), .second] [(.int (3 : Int32)), (.ref b1)])) _
      refine XS.aloadN X0.here hx rfl (hb hby dC_16) rfl rfl ?_
      show Steps p.tables e below (s₁.setTop (mkF m 17 #[.val (.ref b1), .val (.int (3 : Int32)), .val (.int (5 : Int32)), .val (.long x3), .second] [(.ref b1), (.int (3 : Int32)), (.ref b1)])) _
      refine XS.iloadN X0.here hx rfl (hb hby dC_17) rfl ?_
      show Steps p.tables e below (s₁.setTop (mkF m 18 #[.val (.ref b1), .val (.int (3 : Int32)), .val (.int (5 : Int32)), .val (.long x3), .second] [(.int (5 : Int32)), (.ref b1), (.int (3 : Int32)), (.ref b1)])) _
      refine X0.laload hx (j := (5 : Int32)) (v := (.long x5)) (by rw [e0]; exact Ar1.1) (State.isArrayOf_alike hZ.alike Ar1.2.1) Ar1.2.2 (own_hin S1 hi5) ha5 (g := (mkF m 18 #[.val (.ref b1), .val (.int (3 : Int32)), .val (.int (5 : Int32)), .val (.long x3), .second] [(.int (5 : Int32)), (.ref b1), (.int (3 : Int32)), (.ref b1)])) rfl rfl (hb hby dC_18) _ ?_
      show Steps p.tables e below (s₁.setTop (mkF m 19 #[.val (.ref b1), .val (.int (3 : Int32)), .val (.int (5 : Int32)), .val (.long x3), .second] [(.long x5), (.int (3 : Int32)), (.ref b1)])) _
      refine st6 _ ?_
      show Steps p.tables e below (T6.setTop (mkF m 20 #[.val (.ref b1), .val (.int (3 : Int32)), .val (.int (5 : Int32)), .val (.long x3), .second] [])) _
      refine XS.aloadN X6.here hx rfl (hb hby dC_20) rfl rfl ?_
      show Steps p.tables e below (T6.setTop (mkF m 21 #[.val (.ref b1), .val (.int (3 : Int32)), .val (.int (5 : Int32)), .val (.long x3), .second] [(.ref b1)])) _
      refine XS.iloadN X6.here hx rfl (hb hby dC_21) rfl ?_
      show Steps p.tables e below (T6.setTop (mkF m 22 #[.val (.ref b1), .val (.int (3 : Int32)), .val (.int (5 : Int32)), .val (.long x3), .second] [(.int (5 : Int32)), (.ref b1)])) _
      refine XS.lloadN X6.here hx rfl (hb hby dC_22) rfl ?_
      show Steps p.tables e below (T6.setTop (mkF m 23 #[.val (.ref b1), .val (.int (3 : Int32)), .val (.int (5 : Int32)), .val (.long x3), .second] [(.long x3), (.int (5 : Int32)), (.ref b1)])) _
      refine st9 _ ?_
      show Steps p.tables e below (T9.setTop (mkF m 24 #[.val (.ref b1), .val (.int (3 : Int32)), .val (.int (5 : Int32)), .val (.long x3), .second] [])) _
      exact X9.returnOut hx Bd.returns (hb hby dC_24) hr
    · exact ⟨rfl, N9, K9, _, _, _, _, _, _, by rw [own_cs_35, if_pos hc7], V10⟩
  · refine own_end X0 Bd.notSynchronized (v := none) (fun _ => rfl) (fun fs hr => ?_) e0 ?_ (by decide) (by decide)
    · show Steps p.tables e below (s₁.setTop (mkF m 7 #[.val (.ref b1), .val (.int (3 : Int32)), .val (.int (5 : Int32)), .unset, .unset] [(.int (lcmpW x5 x3))])) _
      refine XS.ifYes X0.here hx rfl (pc0 := 7) (pc' := 24) rfl (hb hby dC_7) rfl ((if0 _ _).trans (flt (fun q => hc7 ((lw_lt x5 x3).mp q))).2.1) (by decide) (by decide) ?_
      show Steps p.tables e below (s₁.setTop (mkF m 24 #[.val (.ref b1), .val (.int (3 : Int32)), .val (.int (5 : Int32)), .unset, .unset] [])) _
      exact X0.returnOut hx Bd.returns (hb hby dC_24) hr
    · exact ⟨rfl, N0, K0, _, _, _, _, _, _, by rw [own_cs_35, if_neg hc7], V_b1⟩
def own_cs_34 (x0 : Int64) (x1 : Int64) (x2 : Int64) (x3 : Int64) (x4 : Int64) (x5 : Int64) : List Int64 :=
  if x4 < x3 then
    [x0, x1, x2, x4, x3, x5]
  else
    [x0, x1, x2, x3, x4, x5]
theorem pn_c34 : plainName "com/example/kdata/kdata/LongHeapRemoveLeastPinLaw" = true := by first | (simp [plainName, overriddenIn]; done) | decide +kernel
theorem ef_c34 (m : MethodId) (x0 : Addr) (x1 : Int32) (x2 : Int32) : entryFrame m #[(.ref x0), (.int x1), (.int x2)] 5 = mkF m 0 #[.val (.ref x0), .val (.int x1), .val (.int x2), .unset, .unset] [] := by first | (simp [entryFrame, mkF, argsToLocals, Value.category]; done) | rfl
def Qc34 (Z : State) (b1 : Addr) (k1 : ClassId) (x0 : Int64) (x1 : Int64) (x2 : Int64) (x3 : Int64) (x4 : Int64) (x5 : Int64) (h0 : Heap) (n0 : Nat) (v : Option Value) (h : Heap) (L : List Loc) : Prop := v = none ∧ Fr n0 L ∧ Keep h0 h [b1] ∧ ∃ z0 z1 z2 z3 z4 z5 : Int64, [z0, z1, z2, z3, z4, z5] = own_cs_34 x0 x1 x2 x3 x4 x5 ∧ Arv Z h b1 k1 .long (6 : Int32) [(.long z0), (.long z1), (.long z2), (.long z3), (.long z4), (.long z5)] (.long (0 : Int64))
set_option maxRecDepth 65536 in
set_option maxHeartbeats 40000000 in
theorem rmc34 (l : Launch) (Z : State) (a0 : Array Value) (hw : ∀ d ∈ tables_1, d.before a0 Z = true) (ws : List Jvm.Cond)  (b1 : Addr) (k1 : ClassId) (x0 : Int64) (x1 : Int64) (x2 : Int64) (x3 : Int64) (x4 : Int64) (x5 : Int64) (h0 : Heap) (n0 : Nat) (Z0 : n0 ≤ h0.size) (V_b1 : Arv Z h0 b1 k1 .long (6 : Int32) [(.long x0), (.long x1), (.long x2), (.long x3), (.long x4), (.long x5)] (.long (0 : Int64))) (lo_b1 : n0 ≤ b1) :
    MetFree l (⟨"com/example/kdata/kdata/LongHeapRemoveLeastPinLaw", "cs", "([JII)V"⟩ : MethodName) (head1 (Jvm.Cond.code (⟨"com/example/kdata/kdata/LongHeapRemoveLeastPinLaw", "cs", "([JII)V"⟩ : MethodName) method_2_code 5 none :: ws) ({ frames := 0, cells := 0, slots := 0, locals := 0 } : Room)) (fun a U => a = #[(.ref b1), (.int (3 : Int32)), (.int (4 : Int32))] ∧ Z.Warmed39 U.vm ∧ U.heap = h0) (fun _ _ _ _ _ => True) (fun _ U o U' => ∃ v L, o = .returned v ∧ Qc34 Z b1 k1 x0 x1 x2 x3 x4 x5 h0 n0 v U'.heap L ∧ FrameEnd U o U' L ({ frames := 0, cells := 0, slots := 0, locals := 0 } : Room).cells ({ frames := 0, cells := 0, slots := 0, locals := 0 } : Room).slots) := by
  refine MetFree.of_bodySF (plainFor_of_name pn_c34) hisR ?_
  intro p e s m args below meth c s₁ Bd hml0 hP hK
  obtain ⟨rfl, hZ, hh⟩ := hP
  have hx := Bd.exec
  have hby := Bd.bytes
  have hml : c.maxLocals = 5 := hml0
  have hown : s.vm.findClass "com/example/kdata/kdata/LongHeapRemoveLeastPinLaw" = some m.cls := findClass_of_methodNamed Bd.named
  have hnm := (name_of_methodNamed Bd.named Bd.method).1
  have X0 : Stand p l e ({ frames := 0, cells := 0, slots := 0, locals := 0 } : Room) s m #[(.ref b1), (.int (3 : Int32)), (.int (4 : Int32))] below meth c s₁ [] 0 0 := Stand.of_body Bd
  have e0 : s₁.heap = h0 := by rw [← hh, Bd.state]; rfl
  have N0 := Fr.nil n0
  show own_Go p e below s (Qc34 Z b1 k1 x0 x1 x2 x3 x4 x5 h0 n0) ({ frames := 0, cells := 0, slots := 0, locals := 0 } : Room).cells ({ frames := 0, cells := 0, slots := 0, locals := 0 } : Room).slots (s₁.setTop (entryFrame m #[(.ref b1), (.int (3 : Int32)), (.int (4 : Int32))] 5))
  refine own_go (b := s₁.setTop (mkF m 0 #[.val (.ref b1), .val (.int (3 : Int32)), .val (.int (4 : Int32)), .unset, .unset] [])) (fun t k => castTop (ef_c34 m b1 (3 : Int32) (4 : Int32)) k) ?_
  have K0 := Keep.refl h0 [b1]
  obtain ⟨cl1, Ar1, q1, S1, M1, H1, U1⟩ := id V_b1
  have hi2 : ¬ (4 : Int32) < 0 ∧ (4 : Int32).toNatClampNeg < (6 : Int32).toNatClampNeg := by decide
  have ha2 : cl1.slots[(4 : Int32).toNatClampNeg]? = some (.long x4) := H1 _ (by rw [S1]; exact hi2.2)
  have hi3 : ¬ (3 : Int32) < 0 ∧ (3 : Int32).toNatClampNeg < (6 : Int32).toNatClampNeg := by decide
  have ha3 : cl1.slots[(3 : Int32).toNatClampNeg]? = some (.long x3) := H1 _ (by rw [S1]; exact hi3.2)
  refine own_go (b := s₁.setTop (mkF m 7 #[.val (.ref b1), .val (.int (3 : Int32)), .val (.int (4 : Int32)), .unset, .unset] [(.int (lcmpW x4 x3))])) (fun t k => ?_) ?_
  · show Steps p.tables e below (s₁.setTop (mkF m 0 #[.val (.ref b1), .val (.int (3 : Int32)), .val (.int (4 : Int32)), .unset, .unset] [])) _
    refine XS.aloadN X0.here hx rfl (hb hby dC_0) rfl rfl ?_
    show Steps p.tables e below (s₁.setTop (mkF m 1 #[.val (.ref b1), .val (.int (3 : Int32)), .val (.int (4 : Int32)), .unset, .unset] [(.ref b1)])) _
    refine XS.iloadN X0.here hx rfl (hb hby dC_1) rfl ?_
    show Steps p.tables e below (s₁.setTop (mkF m 2 #[.val (.ref b1), .val (.int (3 : Int32)), .val (.int (4 : Int32)), .unset, .unset] [(.int (4 : Int32)), (.ref b1)])) _
    refine X0.laload hx (j := (4 : Int32)) (v := (.long x4)) (by rw [e0]; exact Ar1.1) (State.isArrayOf_alike hZ.alike Ar1.2.1) Ar1.2.2 (own_hin S1 hi2) ha2 (g := (mkF m 2 #[.val (.ref b1), .val (.int (3 : Int32)), .val (.int (4 : Int32)), .unset, .unset] [(.int (4 : Int32)), (.ref b1)])) rfl rfl (hb hby dC_2) _ ?_
    show Steps p.tables e below (s₁.setTop (mkF m 3 #[.val (.ref b1), .val (.int (3 : Int32)), .val (.int (4 : Int32)), .unset, .unset] [(.long x4)])) _
    refine XS.aloadN X0.here hx rfl (hb hby dC_3) rfl rfl ?_
    show Steps p.tables e below (s₁.setTop (mkF m 4 #[.val (.ref b1), .val (.int (3 : Int32)), .val (.int (4 : Int32)), .unset, .unset] [(.ref b1), (.long x4)])) _
    refine XS.iloadN X0.here hx rfl (hb hby dC_4) rfl ?_
    show Steps p.tables e below (s₁.setTop (mkF m 5 #[.val (.ref b1), .val (.int (3 : Int32)), .val (.int (4 : Int32)), .unset, .unset] [(.int (3 : Int32)), (.ref b1), (.long x4)])) _
    refine X0.laload hx (j := (3 : Int32)) (v := (.long x3)) (by rw [e0]; exact Ar1.1) (State.isArrayOf_alike hZ.alike Ar1.2.1) Ar1.2.2 (own_hin S1 hi3) ha3 (g := (mkF m 5 #[.val (.ref b1), .val (.int (3 : Int32)), .val (.int (4 : Int32)), .unset, .unset] [(.int (3 : Int32)), (.ref b1), (.long x4)])) rfl rfl (hb hby dC_5) _ ?_
    show Steps p.tables e below (s₁.setTop (mkF m 6 #[.val (.ref b1), .val (.int (3 : Int32)), .val (.int (4 : Int32)), .unset, .unset] [(.long x3), (.long x4)])) _
    refine XS.lcmp X0.here hx rfl (hb hby dC_6) rfl ?_
    show Steps p.tables e below (s₁.setTop (mkF m 7 #[.val (.ref b1), .val (.int (3 : Int32)), .val (.int (4 : Int32)), .unset, .unset] [(.int (lcmpW x4 x3))])) _
    exact k
  by_cases hc7 : x4 < x3
  · have hi4 : ¬ (3 : Int32) < 0 ∧ (3 : Int32).toNatClampNeg < (6 : Int32).toNatClampNeg := by decide
    have ha4 : cl1.slots[(3 : Int32).toNatClampNeg]? = some (.long x3) := H1 _ (by rw [S1]; exact hi4.2)
    have hi5 : ¬ (4 : Int32) < 0 ∧ (4 : Int32).toNatClampNeg < (6 : Int32).toNatClampNeg := by decide
    have ha5 : cl1.slots[(4 : Int32).toNatClampNeg]? = some (.long x4) := H1 _ (by rw [S1]; exact hi5.2)
    obtain ⟨T6, h6, X6, e6, W6, st6⟩ := stJ X0 hx hZ e0 Ar1 (j := (3 : Int32)) (by rw [S1]; decide) (g := (mkF m 19 #[.val (.ref b1), .val (.int (3 : Int32)), .val (.int (4 : Int32)), .val (.long x3), .second] [(.long x4), (.int (3 : Int32)), (.ref b1)])) rfl rfl (hb hby dC_19)
    have N6 := Fr.snoc X6 N0 lo_b1
    obtain ⟨lc6, X6, N6⟩ := own_lc X6 N6
    have V7 : Arv Z h6 b1 k1 .long (6 : Int32) [(.long x0), (.long x1), (.long x2), (.long x4), (.long x4), (.long x5)] (.long (0 : Int64)) := Arv.set Ar1 q1 S1 M1 H1 U1 rfl W6 3 rfl (by show 3 < 6; decide)
    have K6 := K0.wr W6 (Or.inl (List.mem_of_getElem? (i := 0) rfl))
    have Z6 : n0 ≤ h6.size := by rw [W6.size]; exact Z0
    obtain ⟨cl8, Ar8, q8, S8, M8, H8, U8⟩ := id V7
    obtain ⟨T9, h9, X9, e9, W9, st9⟩ := stJ X6 hx hZ e6 Ar8 (j := (4 : Int32)) (by rw [S8]; decide) (g := (mkF m 23 #[.val (.ref b1), .val (.int (3 : Int32)), .val (.int (4 : Int32)), .val (.long x3), .second] [(.long x3), (.int (4 : Int32)), (.ref b1)])) rfl rfl (hb hby dC_23)
    have N9 := Fr.snoc X9 N6 lo_b1
    obtain ⟨lc9, X9, N9⟩ := own_lc X9 N9
    have V10 : Arv Z h9 b1 k1 .long (6 : Int32) [(.long x0), (.long x1), (.long x2), (.long x4), (.long x3), (.long x5)] (.long (0 : Int64)) := Arv.set Ar8 q8 S8 M8 H8 U8 rfl W9 4 rfl (by show 4 < 6; decide)
    have K9 := K6.wr W9 (Or.inl (List.mem_of_getElem? (i := 0) rfl))
    have Z9 : n0 ≤ h9.size := by rw [W9.size]; exact Z6
    refine own_end X9 Bd.notSynchronized (v := none) (fun _ => rfl) (fun fs hr => ?_) e9 ?_ (by decide) (by decide)
    · show Steps p.tables e below (s₁.setTop (mkF m 7 #[.val (.ref b1), .val (.int (3 : Int32)), .val (.int (4 : Int32)), .unset, .unset] [(.int (lcmpW x4 x3))])) _
      refine XS.ifNo X0.here hx rfl (hb hby dC_7) rfl ((if0 _ _).trans (tlt ((lw_lt x4 x3).mpr hc7)).2.1) ?_
      show Steps p.tables e below (s₁.setTop (mkF m 10 #[.val (.ref b1), .val (.int (3 : Int32)), .val (.int (4 : Int32)), .unset, .unset] [])) _
      refine XS.aloadN X0.here hx rfl (hb hby dC_10) rfl rfl ?_
      show Steps p.tables e below (s₁.setTop (mkF m 11 #[.val (.ref b1), .val (.int (3 : Int32)), .val (.int (4 : Int32)), .unset, .unset] [(.ref b1)])) _
      refine XS.iloadN X0.here hx rfl (hb hby dC_11) rfl ?_
      show Steps p.tables e below (s₁.setTop (mkF m 12 #[.val (.ref b1), .val (.int (3 : Int32)), .val (.int (4 : Int32)), .unset, .unset] [(.int (3 : Int32)), (.ref b1)])) _
      refine X0.laload hx (j := (3 : Int32)) (v := (.long x3)) (by rw [e0]; exact Ar1.1) (State.isArrayOf_alike hZ.alike Ar1.2.1) Ar1.2.2 (own_hin S1 hi4) ha4 (g := (mkF m 12 #[.val (.ref b1), .val (.int (3 : Int32)), .val (.int (4 : Int32)), .unset, .unset] [(.int (3 : Int32)), (.ref b1)])) rfl rfl (hb hby dC_12) _ ?_
      show Steps p.tables e below (s₁.setTop (mkF m 13 #[.val (.ref b1), .val (.int (3 : Int32)), .val (.int (4 : Int32)), .unset, .unset] [(.long x3)])) _
      refine XS.lstoreN X0.here hx rfl (hb hby dC_13) rfl (l' := #[.val (.ref b1), .val (.int (3 : Int32)), .val (.int (4 : Int32)), .val (.long x3), .second]) rfl ?_
      show Steps p.tables e below (s₁.setTop (mkF m 14 #[.val (.ref b1), .val (.int (3 : Int32)), .val (.int (4 : Int32)), .val (.long x3), .second] [])) _
      refine XS.aloadN X0.here hx rfl (hb hby dC_14) rfl rfl ?_
      show Steps p.tables e below (s₁.setTop (mkF m 15 #[.val (.ref b1), .val (.int (3 : Int32)), .val (.int (4 : Int32)), .val (.long x3), .second] [(.ref b1)])) _
      refine XS.iloadN X0.here hx rfl (hb hby dC_15) rfl ?_
      show Steps p.tables e below (s₁.setTop (mkF m 16 #[.val (.ref b1), .val (.int (3 : Int32)), .val (.int (4 : Int32)), .val (.long x3), .second] [(.int (3 : Int32)), (.ref b1)])) _
      refine XS.aloadN X0.here hx rfl (hb hby dC_16) rfl rfl ?_
      show Steps p.tables e below (s₁.setTop (mkF m 17 #[.val (.ref b1), .val (.int (3 : Int32)), .val (.int (4 : Int32)), .val (.long x3), .second] [(.ref b1), (.int (3 : Int32)), (.ref b1)])) _
      refine XS.iloadN X0.here hx rfl (hb hby dC_17) rfl ?_
      show Steps p.tables e below (s₁.setTop (mkF m 18 #[.val (.ref b1), .val (.int (3 : Int32)), .val (.int (4 : Int32)), .val (.long x3), .second] [(.int (4 : Int32)), (.ref b1), (.int (3 : Int32)), (.ref b1)])) _
      refine X0.laload hx (j := (4 : Int32)) (v := (.long x4)) (by rw [e0]; exact Ar1.1) (State.isArrayOf_alike hZ.alike Ar1.2.1) Ar1.2.2 (own_hin S1 hi5) ha5 (g := (mkF m 18 #[.val (.ref b1), .val (.int (3 : Int32)), .val (.int (4 : Int32)), .val (.long x3), .second] [(.int (4 : Int32)), (.ref b1), (.int (3 : Int32)), (.ref b1)])) rfl rfl (hb hby dC_18) _ ?_
      show Steps p.tables e below (s₁.setTop (mkF m 19 #[.val (.ref b1), .val (.int (3 : Int32)), .val (.int (4 : Int32)), .val (.long x3), .second] [(.long x4), (.int (3 : Int32)), (.ref b1)])) _
      refine st6 _ ?_
      show Steps p.tables e below (T6.setTop (mkF m 20 #[.val (.ref b1), .val (.int (3 : Int32)), .val (.int (4 : Int32)), .val (.long x3), .second] [])) _
      refine XS.aloadN X6.here hx rfl (hb hby dC_20) rfl rfl ?_
      show Steps p.tables e below (T6.setTop (mkF m 21 #[.val (.ref b1), .val (.int (3 : Int32)), .val (.int (4 : Int32)), .val (.long x3), .second] [(.ref b1)])) _
      refine XS.iloadN X6.here hx rfl (hb hby dC_21) rfl ?_
      show Steps p.tables e below (T6.setTop (mkF m 22 #[.val (.ref b1), .val (.int (3 : Int32)), .val (.int (4 : Int32)), .val (.long x3), .second] [(.int (4 : Int32)), (.ref b1)])) _
      refine XS.lloadN X6.here hx rfl (hb hby dC_22) rfl ?_
      show Steps p.tables e below (T6.setTop (mkF m 23 #[.val (.ref b1), .val (.int (3 : Int32)), .val (.int (4 : Int32)), .val (.long x3), .second] [(.long x3), (.int (4 : Int32)), (.ref b1)])) _
      refine st9 _ ?_
      show Steps p.tables e below (T9.setTop (mkF m 24 #[.val (.ref b1), .val (.int (3 : Int32)), .val (.int (4 : Int32)), .val (.long x3), .second] [])) _
      exact X9.returnOut hx Bd.returns (hb hby dC_24) hr
    · exact ⟨rfl, N9, K9, _, _, _, _, _, _, by rw [own_cs_34, if_pos hc7], V10⟩
  · refine own_end X0 Bd.notSynchronized (v := none) (fun _ => rfl) (fun fs hr => ?_) e0 ?_ (by decide) (by decide)
    · show Steps p.tables e below (s₁.setTop (mkF m 7 #[.val (.ref b1), .val (.int (3 : Int32)), .val (.int (4 : Int32)), .unset, .unset] [(.int (lcmpW x4 x3))])) _
      refine XS.ifYes X0.here hx rfl (pc0 := 7) (pc' := 24) rfl (hb hby dC_7) rfl ((if0 _ _).trans (flt (fun q => hc7 ((lw_lt x4 x3).mp q))).2.1) (by decide) (by decide) ?_
      show Steps p.tables e below (s₁.setTop (mkF m 24 #[.val (.ref b1), .val (.int (3 : Int32)), .val (.int (4 : Int32)), .unset, .unset] [])) _
      exact X0.returnOut hx Bd.returns (hb hby dC_24) hr
    · exact ⟨rfl, N0, K0, _, _, _, _, _, _, by rw [own_cs_34, if_neg hc7], V_b1⟩
def own_cs_03 (x0 : Int64) (x1 : Int64) (x2 : Int64) (x3 : Int64) (x4 : Int64) (x5 : Int64) : List Int64 :=
  if x3 < x0 then
    [x3, x1, x2, x0, x4, x5]
  else
    [x0, x1, x2, x3, x4, x5]
theorem pn_c03 : plainName "com/example/kdata/kdata/LongHeapRemoveLeastPinLaw" = true := by first | (simp [plainName, overriddenIn]; done) | decide +kernel
theorem ef_c03 (m : MethodId) (x0 : Addr) (x1 : Int32) (x2 : Int32) : entryFrame m #[(.ref x0), (.int x1), (.int x2)] 5 = mkF m 0 #[.val (.ref x0), .val (.int x1), .val (.int x2), .unset, .unset] [] := by first | (simp [entryFrame, mkF, argsToLocals, Value.category]; done) | rfl
def Qc03 (Z : State) (b1 : Addr) (k1 : ClassId) (x0 : Int64) (x1 : Int64) (x2 : Int64) (x3 : Int64) (x4 : Int64) (x5 : Int64) (h0 : Heap) (n0 : Nat) (v : Option Value) (h : Heap) (L : List Loc) : Prop := v = none ∧ Fr n0 L ∧ Keep h0 h [b1] ∧ ∃ z0 z1 z2 z3 z4 z5 : Int64, [z0, z1, z2, z3, z4, z5] = own_cs_03 x0 x1 x2 x3 x4 x5 ∧ Arv Z h b1 k1 .long (6 : Int32) [(.long z0), (.long z1), (.long z2), (.long z3), (.long z4), (.long z5)] (.long (0 : Int64))
set_option maxRecDepth 65536 in
set_option maxHeartbeats 40000000 in
theorem rmc03 (l : Launch) (Z : State) (a0 : Array Value) (hw : ∀ d ∈ tables_1, d.before a0 Z = true) (ws : List Jvm.Cond)  (b1 : Addr) (k1 : ClassId) (x0 : Int64) (x1 : Int64) (x2 : Int64) (x3 : Int64) (x4 : Int64) (x5 : Int64) (h0 : Heap) (n0 : Nat) (Z0 : n0 ≤ h0.size) (V_b1 : Arv Z h0 b1 k1 .long (6 : Int32) [(.long x0), (.long x1), (.long x2), (.long x3), (.long x4), (.long x5)] (.long (0 : Int64))) (lo_b1 : n0 ≤ b1) :
    MetFree l (⟨"com/example/kdata/kdata/LongHeapRemoveLeastPinLaw", "cs", "([JII)V"⟩ : MethodName) (head1 (Jvm.Cond.code (⟨"com/example/kdata/kdata/LongHeapRemoveLeastPinLaw", "cs", "([JII)V"⟩ : MethodName) method_2_code 5 none :: ws) ({ frames := 0, cells := 0, slots := 0, locals := 0 } : Room)) (fun a U => a = #[(.ref b1), (.int (0 : Int32)), (.int (3 : Int32))] ∧ Z.Warmed39 U.vm ∧ U.heap = h0) (fun _ _ _ _ _ => True) (fun _ U o U' => ∃ v L, o = .returned v ∧ Qc03 Z b1 k1 x0 x1 x2 x3 x4 x5 h0 n0 v U'.heap L ∧ FrameEnd U o U' L ({ frames := 0, cells := 0, slots := 0, locals := 0 } : Room).cells ({ frames := 0, cells := 0, slots := 0, locals := 0 } : Room).slots) := by
  refine MetFree.of_bodySF (plainFor_of_name pn_c03) hisR ?_
  intro p e s m args below meth c s₁ Bd hml0 hP hK
  obtain ⟨rfl, hZ, hh⟩ := hP
  have hx := Bd.exec
  have hby := Bd.bytes
  have hml : c.maxLocals = 5 := hml0
  have hown : s.vm.findClass "com/example/kdata/kdata/LongHeapRemoveLeastPinLaw" = some m.cls := findClass_of_methodNamed Bd.named
  have hnm := (name_of_methodNamed Bd.named Bd.method).1
  have X0 : Stand p l e ({ frames := 0, cells := 0, slots := 0, locals := 0 } : Room) s m #[(.ref b1), (.int (0 : Int32)), (.int (3 : Int32))] below meth c s₁ [] 0 0 := Stand.of_body Bd
  have e0 : s₁.heap = h0 := by rw [← hh, Bd.state]; rfl
  have N0 := Fr.nil n0
  show own_Go p e below s (Qc03 Z b1 k1 x0 x1 x2 x3 x4 x5 h0 n0) ({ frames := 0, cells := 0, slots := 0, locals := 0 } : Room).cells ({ frames := 0, cells := 0, slots := 0, locals := 0 } : Room).slots (s₁.setTop (entryFrame m #[(.ref b1), (.int (0 : Int32)), (.int (3 : Int32))] 5))
  refine own_go (b := s₁.setTop (mkF m 0 #[.val (.ref b1), .val (.int (0 : Int32)), .val (.int (3 : Int32)), .unset, .unset] [])) (fun t k => castTop (ef_c03 m b1 (0 : Int32) (3 : Int32)) k) ?_
  have K0 := Keep.refl h0 [b1]
  obtain ⟨cl1, Ar1, q1, S1, M1, H1, U1⟩ := id V_b1
  have hi2 : ¬ (3 : Int32) < 0 ∧ (3 : Int32).toNatClampNeg < (6 : Int32).toNatClampNeg := by decide
  have ha2 : cl1.slots[(3 : Int32).toNatClampNeg]? = some (.long x3) := H1 _ (by rw [S1]; exact hi2.2)
  have hi3 : ¬ (0 : Int32) < 0 ∧ (0 : Int32).toNatClampNeg < (6 : Int32).toNatClampNeg := by decide
  have ha3 : cl1.slots[(0 : Int32).toNatClampNeg]? = some (.long x0) := H1 _ (by rw [S1]; exact hi3.2)
  refine own_go (b := s₁.setTop (mkF m 7 #[.val (.ref b1), .val (.int (0 : Int32)), .val (.int (3 : Int32)), .unset, .unset] [(.int (lcmpW x3 x0))])) (fun t k => ?_) ?_
  · show Steps p.tables e below (s₁.setTop (mkF m 0 #[.val (.ref b1), .val (.int (0 : Int32)), .val (.int (3 : Int32)), .unset, .unset] [])) _
    refine XS.aloadN X0.here hx rfl (hb hby dC_0) rfl rfl ?_
    show Steps p.tables e below (s₁.setTop (mkF m 1 #[.val (.ref b1), .val (.int (0 : Int32)), .val (.int (3 : Int32)), .unset, .unset] [(.ref b1)])) _
    refine XS.iloadN X0.here hx rfl (hb hby dC_1) rfl ?_
    show Steps p.tables e below (s₁.setTop (mkF m 2 #[.val (.ref b1), .val (.int (0 : Int32)), .val (.int (3 : Int32)), .unset, .unset] [(.int (3 : Int32)), (.ref b1)])) _
    refine X0.laload hx (j := (3 : Int32)) (v := (.long x3)) (by rw [e0]; exact Ar1.1) (State.isArrayOf_alike hZ.alike Ar1.2.1) Ar1.2.2 (own_hin S1 hi2) ha2 (g := (mkF m 2 #[.val (.ref b1), .val (.int (0 : Int32)), .val (.int (3 : Int32)), .unset, .unset] [(.int (3 : Int32)), (.ref b1)])) rfl rfl (hb hby dC_2) _ ?_
    show Steps p.tables e below (s₁.setTop (mkF m 3 #[.val (.ref b1), .val (.int (0 : Int32)), .val (.int (3 : Int32)), .unset, .unset] [(.long x3)])) _
    refine XS.aloadN X0.here hx rfl (hb hby dC_3) rfl rfl ?_
    show Steps p.tables e below (s₁.setTop (mkF m 4 #[.val (.ref b1), .val (.int (0 : Int32)), .val (.int (3 : Int32)), .unset, .unset] [(.ref b1), (.long x3)])) _
    refine XS.iloadN X0.here hx rfl (hb hby dC_4) rfl ?_
    show Steps p.tables e below (s₁.setTop (mkF m 5 #[.val (.ref b1), .val (.int (0 : Int32)), .val (.int (3 : Int32)), .unset, .unset] [(.int (0 : Int32)), (.ref b1), (.long x3)])) _
    refine X0.laload hx (j := (0 : Int32)) (v := (.long x0)) (by rw [e0]; exact Ar1.1) (State.isArrayOf_alike hZ.alike Ar1.2.1) Ar1.2.2 (own_hin S1 hi3) ha3 (g := (mkF m 5 #[.val (.ref b1), .val (.int (0 : Int32)), .val (.int (3 : Int32)), .unset, .unset] [(.int (0 : Int32)), (.ref b1), (.long x3)])) rfl rfl (hb hby dC_5) _ ?_
    show Steps p.tables e below (s₁.setTop (mkF m 6 #[.val (.ref b1), .val (.int (0 : Int32)), .val (.int (3 : Int32)), .unset, .unset] [(.long x0), (.long x3)])) _
    refine XS.lcmp X0.here hx rfl (hb hby dC_6) rfl ?_
    show Steps p.tables e below (s₁.setTop (mkF m 7 #[.val (.ref b1), .val (.int (0 : Int32)), .val (.int (3 : Int32)), .unset, .unset] [(.int (lcmpW x3 x0))])) _
    exact k
  by_cases hc7 : x3 < x0
  · have hi4 : ¬ (0 : Int32) < 0 ∧ (0 : Int32).toNatClampNeg < (6 : Int32).toNatClampNeg := by decide
    have ha4 : cl1.slots[(0 : Int32).toNatClampNeg]? = some (.long x0) := H1 _ (by rw [S1]; exact hi4.2)
    have hi5 : ¬ (3 : Int32) < 0 ∧ (3 : Int32).toNatClampNeg < (6 : Int32).toNatClampNeg := by decide
    have ha5 : cl1.slots[(3 : Int32).toNatClampNeg]? = some (.long x3) := H1 _ (by rw [S1]; exact hi5.2)
    obtain ⟨T6, h6, X6, e6, W6, st6⟩ := stJ X0 hx hZ e0 Ar1 (j := (0 : Int32)) (by rw [S1]; decide) (g := (mkF m 19 #[.val (.ref b1), .val (.int (0 : Int32)), .val (.int (3 : Int32)), .val (.long x0), .second] [(.long x3), (.int (0 : Int32)), (.ref b1)])) rfl rfl (hb hby dC_19)
    have N6 := Fr.snoc X6 N0 lo_b1
    obtain ⟨lc6, X6, N6⟩ := own_lc X6 N6
    have V7 : Arv Z h6 b1 k1 .long (6 : Int32) [(.long x3), (.long x1), (.long x2), (.long x3), (.long x4), (.long x5)] (.long (0 : Int64)) := Arv.set Ar1 q1 S1 M1 H1 U1 rfl W6 0 rfl (by show 0 < 6; decide)
    have K6 := K0.wr W6 (Or.inl (List.mem_of_getElem? (i := 0) rfl))
    have Z6 : n0 ≤ h6.size := by rw [W6.size]; exact Z0
    obtain ⟨cl8, Ar8, q8, S8, M8, H8, U8⟩ := id V7
    obtain ⟨T9, h9, X9, e9, W9, st9⟩ := stJ X6 hx hZ e6 Ar8 (j := (3 : Int32)) (by rw [S8]; decide) (g := (mkF m 23 #[.val (.ref b1), .val (.int (0 : Int32)), .val (.int (3 : Int32)), .val (.long x0), .second] [(.long x0), (.int (3 : Int32)), (.ref b1)])) rfl rfl (hb hby dC_23)
    have N9 := Fr.snoc X9 N6 lo_b1
    obtain ⟨lc9, X9, N9⟩ := own_lc X9 N9
    have V10 : Arv Z h9 b1 k1 .long (6 : Int32) [(.long x3), (.long x1), (.long x2), (.long x0), (.long x4), (.long x5)] (.long (0 : Int64)) := Arv.set Ar8 q8 S8 M8 H8 U8 rfl W9 3 rfl (by show 3 < 6; decide)
    have K9 := K6.wr W9 (Or.inl (List.mem_of_getElem? (i := 0) rfl))
    have Z9 : n0 ≤ h9.size := by rw [W9.size]; exact Z6
    refine own_end X9 Bd.notSynchronized (v := none) (fun _ => rfl) (fun fs hr => ?_) e9 ?_ (by decide) (by decide)
    · show Steps p.tables e below (s₁.setTop (mkF m 7 #[.val (.ref b1), .val (.int (0 : Int32)), .val (.int (3 : Int32)), .unset, .unset] [(.int (lcmpW x3 x0))])) _
      refine XS.ifNo X0.here hx rfl (hb hby dC_7) rfl ((if0 _ _).trans (tlt ((lw_lt x3 x0).mpr hc7)).2.1) ?_
      show Steps p.tables e below (s₁.setTop (mkF m 10 #[.val (.ref b1), .val (.int (0 : Int32)), .val (.int (3 : Int32)), .unset, .unset] [])) _
      refine XS.aloadN X0.here hx rfl (hb hby dC_10) rfl rfl ?_
      show Steps p.tables e below (s₁.setTop (mkF m 11 #[.val (.ref b1), .val (.int (0 : Int32)), .val (.int (3 : Int32)), .unset, .unset] [(.ref b1)])) _
      refine XS.iloadN X0.here hx rfl (hb hby dC_11) rfl ?_
      show Steps p.tables e below (s₁.setTop (mkF m 12 #[.val (.ref b1), .val (.int (0 : Int32)), .val (.int (3 : Int32)), .unset, .unset] [(.int (0 : Int32)), (.ref b1)])) _
      refine X0.laload hx (j := (0 : Int32)) (v := (.long x0)) (by rw [e0]; exact Ar1.1) (State.isArrayOf_alike hZ.alike Ar1.2.1) Ar1.2.2 (own_hin S1 hi4) ha4 (g := (mkF m 12 #[.val (.ref b1), .val (.int (0 : Int32)), .val (.int (3 : Int32)), .unset, .unset] [(.int (0 : Int32)), (.ref b1)])) rfl rfl (hb hby dC_12) _ ?_
      show Steps p.tables e below (s₁.setTop (mkF m 13 #[.val (.ref b1), .val (.int (0 : Int32)), .val (.int (3 : Int32)), .unset, .unset] [(.long x0)])) _
      refine XS.lstoreN X0.here hx rfl (hb hby dC_13) rfl (l' := #[.val (.ref b1), .val (.int (0 : Int32)), .val (.int (3 : Int32)), .val (.long x0), .second]) rfl ?_
      show Steps p.tables e below (s₁.setTop (mkF m 14 #[.val (.ref b1), .val (.int (0 : Int32)), .val (.int (3 : Int32)), .val (.long x0), .second] [])) _
      refine XS.aloadN X0.here hx rfl (hb hby dC_14) rfl rfl ?_
      show Steps p.tables e below (s₁.setTop (mkF m 15 #[.val (.ref b1), .val (.int (0 : Int32)), .val (.int (3 : Int32)), .val (.long x0), .second] [(.ref b1)])) _
      refine XS.iloadN X0.here hx rfl (hb hby dC_15) rfl ?_
      show Steps p.tables e below (s₁.setTop (mkF m 16 #[.val (.ref b1), .val (.int (0 : Int32)), .val (.int (3 : Int32)), .val (.long x0), .second] [(.int (0 : Int32)), (.ref b1)])) _
      refine XS.aloadN X0.here hx rfl (hb hby dC_16) rfl rfl ?_
      show Steps p.tables e below (s₁.setTop (mkF m 17 #[.val (.ref b1), .val (.int (0 : Int32)), .val (.int (3 : Int32)), .val (.long x0), .second] [(.ref b1), (.int (0 : Int32)), (.ref b1)])) _
      refine XS.iloadN X0.here hx rfl (hb hby dC_17) rfl ?_
      show Steps p.tables e below (s₁.setTop (mkF m 18 #[.val (.ref b1), .val (.int (0 : Int32)), .val (.int (3 : Int32)), .val (.long x0), .second] [(.int (3 : Int32)), (.ref b1), (.int (0 : Int32)), (.ref b1)])) _
      refine X0.laload hx (j := (3 : Int32)) (v := (.long x3)) (by rw [e0]; exact Ar1.1) (State.isArrayOf_alike hZ.alike Ar1.2.1) Ar1.2.2 (own_hin S1 hi5) ha5 (g := (mkF m 18 #[.val (.ref b1), .val (.int (0 : Int32)), .val (.int (3 : Int32)), .val (.long x0), .second] [(.int (3 : Int32)), (.ref b1), (.int (0 : Int32)), (.ref b1)])) rfl rfl (hb hby dC_18) _ ?_
      show Steps p.tables e below (s₁.setTop (mkF m 19 #[.val (.ref b1), .val (.int (0 : Int32)), .val (.int (3 : Int32)), .val (.long x0), .second] [(.long x3), (.int (0 : Int32)), (.ref b1)])) _
      refine st6 _ ?_
      show Steps p.tables e below (T6.setTop (mkF m 20 #[.val (.ref b1), .val (.int (0 : Int32)), .val (.int (3 : Int32)), .val (.long x0), .second] [])) _
      refine XS.aloadN X6.here hx rfl (hb hby dC_20) rfl rfl ?_
      show Steps p.tables e below (T6.setTop (mkF m 21 #[.val (.ref b1), .val (.int (0 : Int32)), .val (.int (3 : Int32)), .val (.long x0), .second] [(.ref b1)])) _
      refine XS.iloadN X6.here hx rfl (hb hby dC_21) rfl ?_
      show Steps p.tables e below (T6.setTop (mkF m 22 #[.val (.ref b1), .val (.int (0 : Int32)), .val (.int (3 : Int32)), .val (.long x0), .second] [(.int (3 : Int32)), (.ref b1)])) _
      refine XS.lloadN X6.here hx rfl (hb hby dC_22) rfl ?_
      show Steps p.tables e below (T6.setTop (mkF m 23 #[.val (.ref b1), .val (.int (0 : Int32)), .val (.int (3 : Int32)), .val (.long x0), .second] [(.long x0), (.int (3 : Int32)), (.ref b1)])) _
      refine st9 _ ?_
      show Steps p.tables e below (T9.setTop (mkF m 24 #[.val (.ref b1), .val (.int (0 : Int32)), .val (.int (3 : Int32)), .val (.long x0), .second] [])) _
      exact X9.returnOut hx Bd.returns (hb hby dC_24) hr
    · exact ⟨rfl, N9, K9, _, _, _, _, _, _, by rw [own_cs_03, if_pos hc7], V10⟩
  · refine own_end X0 Bd.notSynchronized (v := none) (fun _ => rfl) (fun fs hr => ?_) e0 ?_ (by decide) (by decide)
    · show Steps p.tables e below (s₁.setTop (mkF m 7 #[.val (.ref b1), .val (.int (0 : Int32)), .val (.int (3 : Int32)), .unset, .unset] [(.int (lcmpW x3 x0))])) _
      refine XS.ifYes X0.here hx rfl (pc0 := 7) (pc' := 24) rfl (hb hby dC_7) rfl ((if0 _ _).trans (flt (fun q => hc7 ((lw_lt x3 x0).mp q))).2.1) (by decide) (by decide) ?_
      show Steps p.tables e below (s₁.setTop (mkF m 24 #[.val (.ref b1), .val (.int (0 : Int32)), .val (.int (3 : Int32)), .unset, .unset] [])) _
      exact X0.returnOut hx Bd.returns (hb hby dC_24) hr
    · exact ⟨rfl, N0, K0, _, _, _, _, _, _, by rw [own_cs_03, if_neg hc7], V_b1⟩
def own_cs_14 (x0 : Int64) (x1 : Int64) (x2 : Int64) (x3 : Int64) (x4 : Int64) (x5 : Int64) : List Int64 :=
  if x4 < x1 then
    [x0, x4, x2, x3, x1, x5]
  else
    [x0, x1, x2, x3, x4, x5]
theorem pn_c14 : plainName "com/example/kdata/kdata/LongHeapRemoveLeastPinLaw" = true := by first | (simp [plainName, overriddenIn]; done) | decide +kernel
theorem ef_c14 (m : MethodId) (x0 : Addr) (x1 : Int32) (x2 : Int32) : entryFrame m #[(.ref x0), (.int x1), (.int x2)] 5 = mkF m 0 #[.val (.ref x0), .val (.int x1), .val (.int x2), .unset, .unset] [] := by first | (simp [entryFrame, mkF, argsToLocals, Value.category]; done) | rfl
def Qc14 (Z : State) (b1 : Addr) (k1 : ClassId) (x0 : Int64) (x1 : Int64) (x2 : Int64) (x3 : Int64) (x4 : Int64) (x5 : Int64) (h0 : Heap) (n0 : Nat) (v : Option Value) (h : Heap) (L : List Loc) : Prop := v = none ∧ Fr n0 L ∧ Keep h0 h [b1] ∧ ∃ z0 z1 z2 z3 z4 z5 : Int64, [z0, z1, z2, z3, z4, z5] = own_cs_14 x0 x1 x2 x3 x4 x5 ∧ Arv Z h b1 k1 .long (6 : Int32) [(.long z0), (.long z1), (.long z2), (.long z3), (.long z4), (.long z5)] (.long (0 : Int64))
set_option maxRecDepth 65536 in
set_option maxHeartbeats 40000000 in
theorem rmc14 (l : Launch) (Z : State) (a0 : Array Value) (hw : ∀ d ∈ tables_1, d.before a0 Z = true) (ws : List Jvm.Cond)  (b1 : Addr) (k1 : ClassId) (x0 : Int64) (x1 : Int64) (x2 : Int64) (x3 : Int64) (x4 : Int64) (x5 : Int64) (h0 : Heap) (n0 : Nat) (Z0 : n0 ≤ h0.size) (V_b1 : Arv Z h0 b1 k1 .long (6 : Int32) [(.long x0), (.long x1), (.long x2), (.long x3), (.long x4), (.long x5)] (.long (0 : Int64))) (lo_b1 : n0 ≤ b1) :
    MetFree l (⟨"com/example/kdata/kdata/LongHeapRemoveLeastPinLaw", "cs", "([JII)V"⟩ : MethodName) (head1 (Jvm.Cond.code (⟨"com/example/kdata/kdata/LongHeapRemoveLeastPinLaw", "cs", "([JII)V"⟩ : MethodName) method_2_code 5 none :: ws) ({ frames := 0, cells := 0, slots := 0, locals := 0 } : Room)) (fun a U => a = #[(.ref b1), (.int (1 : Int32)), (.int (4 : Int32))] ∧ Z.Warmed39 U.vm ∧ U.heap = h0) (fun _ _ _ _ _ => True) (fun _ U o U' => ∃ v L, o = .returned v ∧ Qc14 Z b1 k1 x0 x1 x2 x3 x4 x5 h0 n0 v U'.heap L ∧ FrameEnd U o U' L ({ frames := 0, cells := 0, slots := 0, locals := 0 } : Room).cells ({ frames := 0, cells := 0, slots := 0, locals := 0 } : Room).slots) := by
  refine MetFree.of_bodySF (plainFor_of_name pn_c14) hisR ?_
  intro p e s m args below meth c s₁ Bd hml0 hP hK
  obtain ⟨rfl, hZ, hh⟩ := hP
  have hx := Bd.exec
  have hby := Bd.bytes
  have hml : c.maxLocals = 5 := hml0
  have hown : s.vm.findClass "com/example/kdata/kdata/LongHeapRemoveLeastPinLaw" = some m.cls := findClass_of_methodNamed Bd.named
  have hnm := (name_of_methodNamed Bd.named Bd.method).1
  have X0 : Stand p l e ({ frames := 0, cells := 0, slots := 0, locals := 0 } : Room) s m #[(.ref b1), (.int (1 : Int32)), (.int (4 : Int32))] below meth c s₁ [] 0 0 := Stand.of_body Bd
  have e0 : s₁.heap = h0 := by rw [← hh, Bd.state]; rfl
  have N0 := Fr.nil n0
  show own_Go p e below s (Qc14 Z b1 k1 x0 x1 x2 x3 x4 x5 h0 n0) ({ frames := 0, cells := 0, slots := 0, locals := 0 } : Room).cells ({ frames := 0, cells := 0, slots := 0, locals := 0 } : Room).slots (s₁.setTop (entryFrame m #[(.ref b1), (.int (1 : Int32)), (.int (4 : Int32))] 5))
  refine own_go (b := s₁.setTop (mkF m 0 #[.val (.ref b1), .val (.int (1 : Int32)), .val (.int (4 : Int32)), .unset, .unset] [])) (fun t k => castTop (ef_c14 m b1 (1 : Int32) (4 : Int32)) k) ?_
  have K0 := Keep.refl h0 [b1]
  obtain ⟨cl1, Ar1, q1, S1, M1, H1, U1⟩ := id V_b1
  have hi2 : ¬ (4 : Int32) < 0 ∧ (4 : Int32).toNatClampNeg < (6 : Int32).toNatClampNeg := by decide
  have ha2 : cl1.slots[(4 : Int32).toNatClampNeg]? = some (.long x4) := H1 _ (by rw [S1]; exact hi2.2)
  have hi3 : ¬ (1 : Int32) < 0 ∧ (1 : Int32).toNatClampNeg < (6 : Int32).toNatClampNeg := by decide
  have ha3 : cl1.slots[(1 : Int32).toNatClampNeg]? = some (.long x1) := H1 _ (by rw [S1]; exact hi3.2)
  refine own_go (b := s₁.setTop (mkF m 7 #[.val (.ref b1), .val (.int (1 : Int32)), .val (.int (4 : Int32)), .unset, .unset] [(.int (lcmpW x4 x1))])) (fun t k => ?_) ?_
  · show Steps p.tables e below (s₁.setTop (mkF m 0 #[.val (.ref b1), .val (.int (1 : Int32)), .val (.int (4 : Int32)), .unset, .unset] [])) _
    refine XS.aloadN X0.here hx rfl (hb hby dC_0) rfl rfl ?_
    show Steps p.tables e below (s₁.setTop (mkF m 1 #[.val (.ref b1), .val (.int (1 : Int32)), .val (.int (4 : Int32)), .unset, .unset] [(.ref b1)])) _
    refine XS.iloadN X0.here hx rfl (hb hby dC_1) rfl ?_
    show Steps p.tables e below (s₁.setTop (mkF m 2 #[.val (.ref b1), .val (.int (1 : Int32)), .val (.int (4 : Int32)), .unset, .unset] [(.int (4 : Int32)), (.ref b1)])) _
    refine X0.laload hx (j := (4 : Int32)) (v := (.long x4)) (by rw [e0]; exact Ar1.1) (State.isArrayOf_alike hZ.alike Ar1.2.1) Ar1.2.2 (own_hin S1 hi2) ha2 (g := (mkF m 2 #[.val (.ref b1), .val (.int (1 : Int32)), .val (.int (4 : Int32)), .unset, .unset] [(.int (4 : Int32)), (.ref b1)])) rfl rfl (hb hby dC_2) _ ?_
    show Steps p.tables e below (s₁.setTop (mkF m 3 #[.val (.ref b1), .val (.int (1 : Int32)), .val (.int (4 : Int32)), .unset, .unset] [(.long x4)])) _
    refine XS.aloadN X0.here hx rfl (hb hby dC_3) rfl rfl ?_
    show Steps p.tables e below (s₁.setTop (mkF m 4 #[.val (.ref b1), .val (.int (1 : Int32)), .val (.int (4 : Int32)), .unset, .unset] [(.ref b1), (.long x4)])) _
    refine XS.iloadN X0.here hx rfl (hb hby dC_4) rfl ?_
    show Steps p.tables e below (s₁.setTop (mkF m 5 #[.val (.ref b1), .val (.int (1 : Int32)), .val (.int (4 : Int32)), .unset, .unset] [(.int (1 : Int32)), (.ref b1), (.long x4)])) _
    refine X0.laload hx (j := (1 : Int32)) (v := (.long x1)) (by rw [e0]; exact Ar1.1) (State.isArrayOf_alike hZ.alike Ar1.2.1) Ar1.2.2 (own_hin S1 hi3) ha3 (g := (mkF m 5 #[.val (.ref b1), .val (.int (1 : Int32)), .val (.int (4 : Int32)), .unset, .unset] [(.int (1 : Int32)), (.ref b1), (.long x4)])) rfl rfl (hb hby dC_5) _ ?_
    show Steps p.tables e below (s₁.setTop (mkF m 6 #[.val (.ref b1), .val (.int (1 : Int32)), .val (.int (4 : Int32)), .unset, .unset] [(.long x1), (.long x4)])) _
    refine XS.lcmp X0.here hx rfl (hb hby dC_6) rfl ?_
    show Steps p.tables e below (s₁.setTop (mkF m 7 #[.val (.ref b1), .val (.int (1 : Int32)), .val (.int (4 : Int32)), .unset, .unset] [(.int (lcmpW x4 x1))])) _
    exact k
  by_cases hc7 : x4 < x1
  · have hi4 : ¬ (1 : Int32) < 0 ∧ (1 : Int32).toNatClampNeg < (6 : Int32).toNatClampNeg := by decide
    have ha4 : cl1.slots[(1 : Int32).toNatClampNeg]? = some (.long x1) := H1 _ (by rw [S1]; exact hi4.2)
    have hi5 : ¬ (4 : Int32) < 0 ∧ (4 : Int32).toNatClampNeg < (6 : Int32).toNatClampNeg := by decide
    have ha5 : cl1.slots[(4 : Int32).toNatClampNeg]? = some (.long x4) := H1 _ (by rw [S1]; exact hi5.2)
    obtain ⟨T6, h6, X6, e6, W6, st6⟩ := stJ X0 hx hZ e0 Ar1 (j := (1 : Int32)) (by rw [S1]; decide) (g := (mkF m 19 #[.val (.ref b1), .val (.int (1 : Int32)), .val (.int (4 : Int32)), .val (.long x1), .second] [(.long x4), (.int (1 : Int32)), (.ref b1)])) rfl rfl (hb hby dC_19)
    have N6 := Fr.snoc X6 N0 lo_b1
    obtain ⟨lc6, X6, N6⟩ := own_lc X6 N6
    have V7 : Arv Z h6 b1 k1 .long (6 : Int32) [(.long x0), (.long x4), (.long x2), (.long x3), (.long x4), (.long x5)] (.long (0 : Int64)) := Arv.set Ar1 q1 S1 M1 H1 U1 rfl W6 1 rfl (by show 1 < 6; decide)
    have K6 := K0.wr W6 (Or.inl (List.mem_of_getElem? (i := 0) rfl))
    have Z6 : n0 ≤ h6.size := by rw [W6.size]; exact Z0
    obtain ⟨cl8, Ar8, q8, S8, M8, H8, U8⟩ := id V7
    obtain ⟨T9, h9, X9, e9, W9, st9⟩ := stJ X6 hx hZ e6 Ar8 (j := (4 : Int32)) (by rw [S8]; decide) (g := (mkF m 23 #[.val (.ref b1), .val (.int (1 : Int32)), .val (.int (4 : Int32)), .val (.long x1), .second] [(.long x1), (.int (4 : Int32)), (.ref b1)])) rfl rfl (hb hby dC_23)
    have N9 := Fr.snoc X9 N6 lo_b1
    obtain ⟨lc9, X9, N9⟩ := own_lc X9 N9
    have V10 : Arv Z h9 b1 k1 .long (6 : Int32) [(.long x0), (.long x4), (.long x2), (.long x3), (.long x1), (.long x5)] (.long (0 : Int64)) := Arv.set Ar8 q8 S8 M8 H8 U8 rfl W9 4 rfl (by show 4 < 6; decide)
    have K9 := K6.wr W9 (Or.inl (List.mem_of_getElem? (i := 0) rfl))
    have Z9 : n0 ≤ h9.size := by rw [W9.size]; exact Z6
    refine own_end X9 Bd.notSynchronized (v := none) (fun _ => rfl) (fun fs hr => ?_) e9 ?_ (by decide) (by decide)
    · show Steps p.tables e below (s₁.setTop (mkF m 7 #[.val (.ref b1), .val (.int (1 : Int32)), .val (.int (4 : Int32)), .unset, .unset] [(.int (lcmpW x4 x1))])) _
      refine XS.ifNo X0.here hx rfl (hb hby dC_7) rfl ((if0 _ _).trans (tlt ((lw_lt x4 x1).mpr hc7)).2.1) ?_
      show Steps p.tables e below (s₁.setTop (mkF m 10 #[.val (.ref b1), .val (.int (1 : Int32)), .val (.int (4 : Int32)), .unset, .unset] [])) _
      refine XS.aloadN X0.here hx rfl (hb hby dC_10) rfl rfl ?_
      show Steps p.tables e below (s₁.setTop (mkF m 11 #[.val (.ref b1), .val (.int (1 : Int32)), .val (.int (4 : Int32)), .unset, .unset] [(.ref b1)])) _
      refine XS.iloadN X0.here hx rfl (hb hby dC_11) rfl ?_
      show Steps p.tables e below (s₁.setTop (mkF m 12 #[.val (.ref b1), .val (.int (1 : Int32)), .val (.int (4 : Int32)), .unset, .unset] [(.int (1 : Int32)), (.ref b1)])) _
      refine X0.laload hx (j := (1 : Int32)) (v := (.long x1)) (by rw [e0]; exact Ar1.1) (State.isArrayOf_alike hZ.alike Ar1.2.1) Ar1.2.2 (own_hin S1 hi4) ha4 (g := (mkF m 12 #[.val (.ref b1), .val (.int (1 : Int32)), .val (.int (4 : Int32)), .unset, .unset] [(.int (1 : Int32)), (.ref b1)])) rfl rfl (hb hby dC_12) _ ?_
      show Steps p.tables e below (s₁.setTop (mkF m 13 #[.val (.ref b1), .val (.int (1 : Int32)), .val (.int (4 : Int32)), .unset, .unset] [(.long x1)])) _
      refine XS.lstoreN X0.here hx rfl (hb hby dC_13) rfl (l' := #[.val (.ref b1), .val (.int (1 : Int32)), .val (.int (4 : Int32)), .val (.long x1), .second]) rfl ?_
      show Steps p.tables e below (s₁.setTop (mkF m 14 #[.val (.ref b1), .val (.int (1 : Int32)), .val (.int (4 : Int32)), .val (.long x1), .second] [])) _
      refine XS.aloadN X0.here hx rfl (hb hby dC_14) rfl rfl ?_
      show Steps p.tables e below (s₁.setTop (mkF m 15 #[.val (.ref b1), .val (.int (1 : Int32)), .val (.int (4 : Int32)), .val (.long x1), .second] [(.ref b1)])) _
      refine XS.iloadN X0.here hx rfl (hb hby dC_15) rfl ?_
      show Steps p.tables e below (s₁.setTop (mkF m 16 #[.val (.ref b1), .val (.int (1 : Int32)), .val (.int (4 : Int32)), .val (.long x1), .second] [(.int (1 : Int32)), (.ref b1)])) _
      refine XS.aloadN X0.here hx rfl (hb hby dC_16) rfl rfl ?_
      show Steps p.tables e below (s₁.setTop (mkF m 17 #[.val (.ref b1), .val (.int (1 : Int32)), .val (.int (4 : Int32)), .val (.long x1), .second] [(.ref b1), (.int (1 : Int32)), (.ref b1)])) _
      refine XS.iloadN X0.here hx rfl (hb hby dC_17) rfl ?_
      show Steps p.tables e below (s₁.setTop (mkF m 18 #[.val (.ref b1), .val (.int (1 : Int32)), .val (.int (4 : Int32)), .val (.long x1), .second] [(.int (4 : Int32)), (.ref b1), (.int (1 : Int32)), (.ref b1)])) _
      refine X0.laload hx (j := (4 : Int32)) (v := (.long x4)) (by rw [e0]; exact Ar1.1) (State.isArrayOf_alike hZ.alike Ar1.2.1) Ar1.2.2 (own_hin S1 hi5) ha5 (g := (mkF m 18 #[.val (.ref b1), .val (.int (1 : Int32)), .val (.int (4 : Int32)), .val (.long x1), .second] [(.int (4 : Int32)), (.ref b1), (.int (1 : Int32)), (.ref b1)])) rfl rfl (hb hby dC_18) _ ?_
      show Steps p.tables e below (s₁.setTop (mkF m 19 #[.val (.ref b1), .val (.int (1 : Int32)), .val (.int (4 : Int32)), .val (.long x1), .second] [(.long x4), (.int (1 : Int32)), (.ref b1)])) _
      refine st6 _ ?_
      show Steps p.tables e below (T6.setTop (mkF m 20 #[.val (.ref b1), .val (.int (1 : Int32)), .val (.int (4 : Int32)), .val (.long x1), .second] [])) _
      refine XS.aloadN X6.here hx rfl (hb hby dC_20) rfl rfl ?_
      show Steps p.tables e below (T6.setTop (mkF m 21 #[.val (.ref b1), .val (.int (1 : Int32)), .val (.int (4 : Int32)), .val (.long x1), .second] [(.ref b1)])) _
      refine XS.iloadN X6.here hx rfl (hb hby dC_21) rfl ?_
      show Steps p.tables e below (T6.setTop (mkF m 22 #[.val (.ref b1), .val (.int (1 : Int32)), .val (.int (4 : Int32)), .val (.long x1), .second] [(.int (4 : Int32)), (.ref b1)])) _
      refine XS.lloadN X6.here hx rfl (hb hby dC_22) rfl ?_
      show Steps p.tables e below (T6.setTop (mkF m 23 #[.val (.ref b1), .val (.int (1 : Int32)), .val (.int (4 : Int32)), .val (.long x1), .second] [(.long x1), (.int (4 : Int32)), (.ref b1)])) _
      refine st9 _ ?_
      show Steps p.tables e below (T9.setTop (mkF m 24 #[.val (.ref b1), .val (.int (1 : Int32)), .val (.int (4 : Int32)), .val (.long x1), .second] [])) _
      exact X9.returnOut hx Bd.returns (hb hby dC_24) hr
    · exact ⟨rfl, N9, K9, _, _, _, _, _, _, by rw [own_cs_14, if_pos hc7], V10⟩
  · refine own_end X0 Bd.notSynchronized (v := none) (fun _ => rfl) (fun fs hr => ?_) e0 ?_ (by decide) (by decide)
    · show Steps p.tables e below (s₁.setTop (mkF m 7 #[.val (.ref b1), .val (.int (1 : Int32)), .val (.int (4 : Int32)), .unset, .unset] [(.int (lcmpW x4 x1))])) _
      refine XS.ifYes X0.here hx rfl (pc0 := 7) (pc' := 24) rfl (hb hby dC_7) rfl ((if0 _ _).trans (flt (fun q => hc7 ((lw_lt x4 x1).mp q))).2.1) (by decide) (by decide) ?_
      show Steps p.tables e below (s₁.setTop (mkF m 24 #[.val (.ref b1), .val (.int (1 : Int32)), .val (.int (4 : Int32)), .unset, .unset] [])) _
      exact X0.returnOut hx Bd.returns (hb hby dC_24) hr
    · exact ⟨rfl, N0, K0, _, _, _, _, _, _, by rw [own_cs_14, if_neg hc7], V_b1⟩
def own_cs_25 (x0 : Int64) (x1 : Int64) (x2 : Int64) (x3 : Int64) (x4 : Int64) (x5 : Int64) : List Int64 :=
  if x5 < x2 then
    [x0, x1, x5, x3, x4, x2]
  else
    [x0, x1, x2, x3, x4, x5]
theorem pn_c25 : plainName "com/example/kdata/kdata/LongHeapRemoveLeastPinLaw" = true := by first | (simp [plainName, overriddenIn]; done) | decide +kernel
theorem ef_c25 (m : MethodId) (x0 : Addr) (x1 : Int32) (x2 : Int32) : entryFrame m #[(.ref x0), (.int x1), (.int x2)] 5 = mkF m 0 #[.val (.ref x0), .val (.int x1), .val (.int x2), .unset, .unset] [] := by first | (simp [entryFrame, mkF, argsToLocals, Value.category]; done) | rfl
def Qc25 (Z : State) (b1 : Addr) (k1 : ClassId) (x0 : Int64) (x1 : Int64) (x2 : Int64) (x3 : Int64) (x4 : Int64) (x5 : Int64) (h0 : Heap) (n0 : Nat) (v : Option Value) (h : Heap) (L : List Loc) : Prop := v = none ∧ Fr n0 L ∧ Keep h0 h [b1] ∧ ∃ z0 z1 z2 z3 z4 z5 : Int64, [z0, z1, z2, z3, z4, z5] = own_cs_25 x0 x1 x2 x3 x4 x5 ∧ Arv Z h b1 k1 .long (6 : Int32) [(.long z0), (.long z1), (.long z2), (.long z3), (.long z4), (.long z5)] (.long (0 : Int64))
set_option maxRecDepth 65536 in
set_option maxHeartbeats 40000000 in
theorem rmc25 (l : Launch) (Z : State) (a0 : Array Value) (hw : ∀ d ∈ tables_1, d.before a0 Z = true) (ws : List Jvm.Cond)  (b1 : Addr) (k1 : ClassId) (x0 : Int64) (x1 : Int64) (x2 : Int64) (x3 : Int64) (x4 : Int64) (x5 : Int64) (h0 : Heap) (n0 : Nat) (Z0 : n0 ≤ h0.size) (V_b1 : Arv Z h0 b1 k1 .long (6 : Int32) [(.long x0), (.long x1), (.long x2), (.long x3), (.long x4), (.long x5)] (.long (0 : Int64))) (lo_b1 : n0 ≤ b1) :
    MetFree l (⟨"com/example/kdata/kdata/LongHeapRemoveLeastPinLaw", "cs", "([JII)V"⟩ : MethodName) (head1 (Jvm.Cond.code (⟨"com/example/kdata/kdata/LongHeapRemoveLeastPinLaw", "cs", "([JII)V"⟩ : MethodName) method_2_code 5 none :: ws) ({ frames := 0, cells := 0, slots := 0, locals := 0 } : Room)) (fun a U => a = #[(.ref b1), (.int (2 : Int32)), (.int (5 : Int32))] ∧ Z.Warmed39 U.vm ∧ U.heap = h0) (fun _ _ _ _ _ => True) (fun _ U o U' => ∃ v L, o = .returned v ∧ Qc25 Z b1 k1 x0 x1 x2 x3 x4 x5 h0 n0 v U'.heap L ∧ FrameEnd U o U' L ({ frames := 0, cells := 0, slots := 0, locals := 0 } : Room).cells ({ frames := 0, cells := 0, slots := 0, locals := 0 } : Room).slots) := by
  refine MetFree.of_bodySF (plainFor_of_name pn_c25) hisR ?_
  intro p e s m args below meth c s₁ Bd hml0 hP hK
  obtain ⟨rfl, hZ, hh⟩ := hP
  have hx := Bd.exec
  have hby := Bd.bytes
  have hml : c.maxLocals = 5 := hml0
  have hown : s.vm.findClass "com/example/kdata/kdata/LongHeapRemoveLeastPinLaw" = some m.cls := findClass_of_methodNamed Bd.named
  have hnm := (name_of_methodNamed Bd.named Bd.method).1
  have X0 : Stand p l e ({ frames := 0, cells := 0, slots := 0, locals := 0 } : Room) s m #[(.ref b1), (.int (2 : Int32)), (.int (5 : Int32))] below meth c s₁ [] 0 0 := Stand.of_body Bd
  have e0 : s₁.heap = h0 := by rw [← hh, Bd.state]; rfl
  have N0 := Fr.nil n0
  show own_Go p e below s (Qc25 Z b1 k1 x0 x1 x2 x3 x4 x5 h0 n0) ({ frames := 0, cells := 0, slots := 0, locals := 0 } : Room).cells ({ frames := 0, cells := 0, slots := 0, locals := 0 } : Room).slots (s₁.setTop (entryFrame m #[(.ref b1), (.int (2 : Int32)), (.int (5 : Int32))] 5))
  refine own_go (b := s₁.setTop (mkF m 0 #[.val (.ref b1), .val (.int (2 : Int32)), .val (.int (5 : Int32)), .unset, .unset] [])) (fun t k => castTop (ef_c25 m b1 (2 : Int32) (5 : Int32)) k) ?_
  have K0 := Keep.refl h0 [b1]
  obtain ⟨cl1, Ar1, q1, S1, M1, H1, U1⟩ := id V_b1
  have hi2 : ¬ (5 : Int32) < 0 ∧ (5 : Int32).toNatClampNeg < (6 : Int32).toNatClampNeg := by decide
  have ha2 : cl1.slots[(5 : Int32).toNatClampNeg]? = some (.long x5) := H1 _ (by rw [S1]; exact hi2.2)
  have hi3 : ¬ (2 : Int32) < 0 ∧ (2 : Int32).toNatClampNeg < (6 : Int32).toNatClampNeg := by decide
  have ha3 : cl1.slots[(2 : Int32).toNatClampNeg]? = some (.long x2) := H1 _ (by rw [S1]; exact hi3.2)
  refine own_go (b := s₁.setTop (mkF m 7 #[.val (.ref b1), .val (.int (2 : Int32)), .val (.int (5 : Int32)), .unset, .unset] [(.int (lcmpW x5 x2))])) (fun t k => ?_) ?_
  · show Steps p.tables e below (s₁.setTop (mkF m 0 #[.val (.ref b1), .val (.int (2 : Int32)), .val (.int (5 : Int32)), .unset, .unset] [])) _
    refine XS.aloadN X0.here hx rfl (hb hby dC_0) rfl rfl ?_
    show Steps p.tables e below (s₁.setTop (mkF m 1 #[.val (.ref b1), .val (.int (2 : Int32)), .val (.int (5 : Int32)), .unset, .unset] [(.ref b1)])) _
    refine XS.iloadN X0.here hx rfl (hb hby dC_1) rfl ?_
    show Steps p.tables e below (s₁.setTop (mkF m 2 #[.val (.ref b1), .val (.int (2 : Int32)), .val (.int (5 : Int32)), .unset, .unset] [(.int (5 : Int32)), (.ref b1)])) _
    refine X0.laload hx (j := (5 : Int32)) (v := (.long x5)) (by rw [e0]; exact Ar1.1) (State.isArrayOf_alike hZ.alike Ar1.2.1) Ar1.2.2 (own_hin S1 hi2) ha2 (g := (mkF m 2 #[.val (.ref b1), .val (.int (2 : Int32)), .val (.int (5 : Int32)), .unset, .unset] [(.int (5 : Int32)), (.ref b1)])) rfl rfl (hb hby dC_2) _ ?_
    show Steps p.tables e below (s₁.setTop (mkF m 3 #[.val (.ref b1), .val (.int (2 : Int32)), .val (.int (5 : Int32)), .unset, .unset] [(.long x5)])) _
    refine XS.aloadN X0.here hx rfl (hb hby dC_3) rfl rfl ?_
    show Steps p.tables e below (s₁.setTop (mkF m 4 #[.val (.ref b1), .val (.int (2 : Int32)), .val (.int (5 : Int32)), .unset, .unset] [(.ref b1), (.long x5)])) _
    refine XS.iloadN X0.here hx rfl (hb hby dC_4) rfl ?_
    show Steps p.tables e below (s₁.setTop (mkF m 5 #[.val (.ref b1), .val (.int (2 : Int32)), .val (.int (5 : Int32)), .unset, .unset] [(.int (2 : Int32)), (.ref b1), (.long x5)])) _
    refine X0.laload hx (j := (2 : Int32)) (v := (.long x2)) (by rw [e0]; exact Ar1.1) (State.isArrayOf_alike hZ.alike Ar1.2.1) Ar1.2.2 (own_hin S1 hi3) ha3 (g := (mkF m 5 #[.val (.ref b1), .val (.int (2 : Int32)), .val (.int (5 : Int32)), .unset, .unset] [(.int (2 : Int32)), (.ref b1), (.long x5)])) rfl rfl (hb hby dC_5) _ ?_
    show Steps p.tables e below (s₁.setTop (mkF m 6 #[.val (.ref b1), .val (.int (2 : Int32)), .val (.int (5 : Int32)), .unset, .unset] [(.long x2), (.long x5)])) _
    refine XS.lcmp X0.here hx rfl (hb hby dC_6) rfl ?_
    show Steps p.tables e below (s₁.setTop (mkF m 7 #[.val (.ref b1), .val (.int (2 : Int32)), .val (.int (5 : Int32)), .unset, .unset] [(.int (lcmpW x5 x2))])) _
    exact k
  by_cases hc7 : x5 < x2
  · have hi4 : ¬ (2 : Int32) < 0 ∧ (2 : Int32).toNatClampNeg < (6 : Int32).toNatClampNeg := by decide
    have ha4 : cl1.slots[(2 : Int32).toNatClampNeg]? = some (.long x2) := H1 _ (by rw [S1]; exact hi4.2)
    have hi5 : ¬ (5 : Int32) < 0 ∧ (5 : Int32).toNatClampNeg < (6 : Int32).toNatClampNeg := by decide
    have ha5 : cl1.slots[(5 : Int32).toNatClampNeg]? = some (.long x5) := H1 _ (by rw [S1]; exact hi5.2)
    obtain ⟨T6, h6, X6, e6, W6, st6⟩ := stJ X0 hx hZ e0 Ar1 (j := (2 : Int32)) (by rw [S1]; decide) (g := (mkF m 19 #[.val (.ref b1), .val (.int (2 : Int32)), .val (.int (5 : Int32)), .val (.long x2), .second] [(.long x5), (.int (2 : Int32)), (.ref b1)])) rfl rfl (hb hby dC_19)
    have N6 := Fr.snoc X6 N0 lo_b1
    obtain ⟨lc6, X6, N6⟩ := own_lc X6 N6
    have V7 : Arv Z h6 b1 k1 .long (6 : Int32) [(.long x0), (.long x1), (.long x5), (.long x3), (.long x4), (.long x5)] (.long (0 : Int64)) := Arv.set Ar1 q1 S1 M1 H1 U1 rfl W6 2 rfl (by show 2 < 6; decide)
    have K6 := K0.wr W6 (Or.inl (List.mem_of_getElem? (i := 0) rfl))
    have Z6 : n0 ≤ h6.size := by rw [W6.size]; exact Z0
    obtain ⟨cl8, Ar8, q8, S8, M8, H8, U8⟩ := id V7
    obtain ⟨T9, h9, X9, e9, W9, st9⟩ := stJ X6 hx hZ e6 Ar8 (j := (5 : Int32)) (by rw [S8]; decide) (g := (mkF m 23 #[.val (.ref b1), .val (.int (2 : Int32)), .val (.int (5 : Int32)), .val (.long x2), .second] [(.long x2), (.int (5 : Int32)), (.ref b1)])) rfl rfl (hb hby dC_23)
    have N9 := Fr.snoc X9 N6 lo_b1
    obtain ⟨lc9, X9, N9⟩ := own_lc X9 N9
    have V10 : Arv Z h9 b1 k1 .long (6 : Int32) [(.long x0), (.long x1), (.long x5), (.long x3), (.long x4), (.long x2)] (.long (0 : Int64)) := Arv.set Ar8 q8 S8 M8 H8 U8 rfl W9 5 rfl (by show 5 < 6; decide)
    have K9 := K6.wr W9 (Or.inl (List.mem_of_getElem? (i := 0) rfl))
    have Z9 : n0 ≤ h9.size := by rw [W9.size]; exact Z6
    refine own_end X9 Bd.notSynchronized (v := none) (fun _ => rfl) (fun fs hr => ?_) e9 ?_ (by decide) (by decide)
    · show Steps p.tables e below (s₁.setTop (mkF m 7 #[.val (.ref b1), .val (.int (2 : Int32)), .val (.int (5 : Int32)), .unset, .unset] [(.int (lcmpW x5 x2))])) _
      refine XS.ifNo X0.here hx rfl (hb hby dC_7) rfl ((if0 _ _).trans (tlt ((lw_lt x5 x2).mpr hc7)).2.1) ?_
      show Steps p.tables e below (s₁.setTop (mkF m 10 #[.val (.ref b1), .val (.int (2 : Int32)), .val (.int (5 : Int32)), .unset, .unset] [])) _
      refine XS.aloadN X0.here hx rfl (hb hby dC_10) rfl rfl ?_
      show Steps p.tables e below (s₁.setTop (mkF m 11 #[.val (.ref b1), .val (.int (2 : Int32)), .val (.int (5 : Int32)), .unset, .unset] [(.ref b1)])) _
      refine XS.iloadN X0.here hx rfl (hb hby dC_11) rfl ?_
      show Steps p.tables e below (s₁.setTop (mkF m 12 #[.val (.ref b1), .val (.int (2 : Int32)), .val (.int (5 : Int32)), .unset, .unset] [(.int (2 : Int32)), (.ref b1)])) _
      refine X0.laload hx (j := (2 : Int32)) (v := (.long x2)) (by rw [e0]; exact Ar1.1) (State.isArrayOf_alike hZ.alike Ar1.2.1) Ar1.2.2 (own_hin S1 hi4) ha4 (g := (mkF m 12 #[.val (.ref b1), .val (.int (2 : Int32)), .val (.int (5 : Int32)), .unset, .unset] [(.int (2 : Int32)), (.ref b1)])) rfl rfl (hb hby dC_12) _ ?_
      show Steps p.tables e below (s₁.setTop (mkF m 13 #[.val (.ref b1), .val (.int (2 : Int32)), .val (.int (5 : Int32)), .unset, .unset] [(.long x2)])) _
      refine XS.lstoreN X0.here hx rfl (hb hby dC_13) rfl (l' := #[.val (.ref b1), .val (.int (2 : Int32)), .val (.int (5 : Int32)), .val (.long x2), .second]) rfl ?_
      show Steps p.tables e below (s₁.setTop (mkF m 14 #[.val (.ref b1), .val (.int (2 : Int32)), .val (.int (5 : Int32)), .val (.long x2), .second] [])) _
      refine XS.aloadN X0.here hx rfl (hb hby dC_14) rfl rfl ?_
      show Steps p.tables e below (s₁.setTop (mkF m 15 #[.val (.ref b1), .val (.int (2 : Int32)), .val (.int (5 : Int32)), .val (.long x2), .second] [(.ref b1)])) _
      refine XS.iloadN X0.here hx rfl (hb hby dC_15) rfl ?_
      show Steps p.tables e below (s₁.setTop (mkF m 16 #[.val (.ref b1), .val (.int (2 : Int32)), .val (.int (5 : Int32)), .val (.long x2), .second] [(.int (2 : Int32)), (.ref b1)])) _
      refine XS.aloadN X0.here hx rfl (hb hby dC_16) rfl rfl ?_
      show Steps p.tables e below (s₁.setTop (mkF m 17 #[.val (.ref b1), .val (.int (2 : Int32)), .val (.int (5 : Int32)), .val (.long x2), .second] [(.ref b1), (.int (2 : Int32)), (.ref b1)])) _
      refine XS.iloadN X0.here hx rfl (hb hby dC_17) rfl ?_
      show Steps p.tables e below (s₁.setTop (mkF m 18 #[.val (.ref b1), .val (.int (2 : Int32)), .val (.int (5 : Int32)), .val (.long x2), .second] [(.int (5 : Int32)), (.ref b1), (.int (2 : Int32)), (.ref b1)])) _
      refine X0.laload hx (j := (5 : Int32)) (v := (.long x5)) (by rw [e0]; exact Ar1.1) (State.isArrayOf_alike hZ.alike Ar1.2.1) Ar1.2.2 (own_hin S1 hi5) ha5 (g := (mkF m 18 #[.val (.ref b1), .val (.int (2 : Int32)), .val (.int (5 : Int32)), .val (.long x2), .second] [(.int (5 : Int32)), (.ref b1), (.int (2 : Int32)), (.ref b1)])) rfl rfl (hb hby dC_18) _ ?_
      show Steps p.tables e below (s₁.setTop (mkF m 19 #[.val (.ref b1), .val (.int (2 : Int32)), .val (.int (5 : Int32)), .val (.long x2), .second] [(.long x5), (.int (2 : Int32)), (.ref b1)])) _
      refine st6 _ ?_
      show Steps p.tables e below (T6.setTop (mkF m 20 #[.val (.ref b1), .val (.int (2 : Int32)), .val (.int (5 : Int32)), .val (.long x2), .second] [])) _
      refine XS.aloadN X6.here hx rfl (hb hby dC_20) rfl rfl ?_
      show Steps p.tables e below (T6.setTop (mkF m 21 #[.val (.ref b1), .val (.int (2 : Int32)), .val (.int (5 : Int32)), .val (.long x2), .second] [(.ref b1)])) _
      refine XS.iloadN X6.here hx rfl (hb hby dC_21) rfl ?_
      show Steps p.tables e below (T6.setTop (mkF m 22 #[.val (.ref b1), .val (.int (2 : Int32)), .val (.int (5 : Int32)), .val (.long x2), .second] [(.int (5 : Int32)), (.ref b1)])) _
      refine XS.lloadN X6.here hx rfl (hb hby dC_22) rfl ?_
      show Steps p.tables e below (T6.setTop (mkF m 23 #[.val (.ref b1), .val (.int (2 : Int32)), .val (.int (5 : Int32)), .val (.long x2), .second] [(.long x2), (.int (5 : Int32)), (.ref b1)])) _
      refine st9 _ ?_
      show Steps p.tables e below (T9.setTop (mkF m 24 #[.val (.ref b1), .val (.int (2 : Int32)), .val (.int (5 : Int32)), .val (.long x2), .second] [])) _
      exact X9.returnOut hx Bd.returns (hb hby dC_24) hr
    · exact ⟨rfl, N9, K9, _, _, _, _, _, _, by rw [own_cs_25, if_pos hc7], V10⟩
  · refine own_end X0 Bd.notSynchronized (v := none) (fun _ => rfl) (fun fs hr => ?_) e0 ?_ (by decide) (by decide)
    · show Steps p.tables e below (s₁.setTop (mkF m 7 #[.val (.ref b1), .val (.int (2 : Int32)), .val (.int (5 : Int32)), .unset, .unset] [(.int (lcmpW x5 x2))])) _
      refine XS.ifYes X0.here hx rfl (pc0 := 7) (pc' := 24) rfl (hb hby dC_7) rfl ((if0 _ _).trans (flt (fun q => hc7 ((lw_lt x5 x2).mp q))).2.1) (by decide) (by decide) ?_
      show Steps p.tables e below (s₁.setTop (mkF m 24 #[.val (.ref b1), .val (.int (2 : Int32)), .val (.int (5 : Int32)), .unset, .unset] [])) _
      exact X0.returnOut hx Bd.returns (hb hby dC_24) hr
    · exact ⟨rfl, N0, K0, _, _, _, _, _, _, by rw [own_cs_25, if_neg hc7], V_b1⟩
def own_cs_24 (x0 : Int64) (x1 : Int64) (x2 : Int64) (x3 : Int64) (x4 : Int64) (x5 : Int64) : List Int64 :=
  if x4 < x2 then
    [x0, x1, x4, x3, x2, x5]
  else
    [x0, x1, x2, x3, x4, x5]
theorem pn_c24 : plainName "com/example/kdata/kdata/LongHeapRemoveLeastPinLaw" = true := by first | (simp [plainName, overriddenIn]; done) | decide +kernel
theorem ef_c24 (m : MethodId) (x0 : Addr) (x1 : Int32) (x2 : Int32) : entryFrame m #[(.ref x0), (.int x1), (.int x2)] 5 = mkF m 0 #[.val (.ref x0), .val (.int x1), .val (.int x2), .unset, .unset] [] := by first | (simp [entryFrame, mkF, argsToLocals, Value.category]; done) | rfl
def Qc24 (Z : State) (b1 : Addr) (k1 : ClassId) (x0 : Int64) (x1 : Int64) (x2 : Int64) (x3 : Int64) (x4 : Int64) (x5 : Int64) (h0 : Heap) (n0 : Nat) (v : Option Value) (h : Heap) (L : List Loc) : Prop := v = none ∧ Fr n0 L ∧ Keep h0 h [b1] ∧ ∃ z0 z1 z2 z3 z4 z5 : Int64, [z0, z1, z2, z3, z4, z5] = own_cs_24 x0 x1 x2 x3 x4 x5 ∧ Arv Z h b1 k1 .long (6 : Int32) [(.long z0), (.long z1), (.long z2), (.long z3), (.long z4), (.long z5)] (.long (0 : Int64))
set_option maxRecDepth 65536 in
set_option maxHeartbeats 40000000 in
theorem rmc24 (l : Launch) (Z : State) (a0 : Array Value) (hw : ∀ d ∈ tables_1, d.before a0 Z = true) (ws : List Jvm.Cond)  (b1 : Addr) (k1 : ClassId) (x0 : Int64) (x1 : Int64) (x2 : Int64) (x3 : Int64) (x4 : Int64) (x5 : Int64) (h0 : Heap) (n0 : Nat) (Z0 : n0 ≤ h0.size) (V_b1 : Arv Z h0 b1 k1 .long (6 : Int32) [(.long x0), (.long x1), (.long x2), (.long x3), (.long x4), (.long x5)] (.long (0 : Int64))) (lo_b1 : n0 ≤ b1) :
    MetFree l (⟨"com/example/kdata/kdata/LongHeapRemoveLeastPinLaw", "cs", "([JII)V"⟩ : MethodName) (head1 (Jvm.Cond.code (⟨"com/example/kdata/kdata/LongHeapRemoveLeastPinLaw", "cs", "([JII)V"⟩ : MethodName) method_2_code 5 none :: ws) ({ frames := 0, cells := 0, slots := 0, locals := 0 } : Room)) (fun a U => a = #[(.ref b1), (.int (2 : Int32)), (.int (4 : Int32))] ∧ Z.Warmed39 U.vm ∧ U.heap = h0) (fun _ _ _ _ _ => True) (fun _ U o U' => ∃ v L, o = .returned v ∧ Qc24 Z b1 k1 x0 x1 x2 x3 x4 x5 h0 n0 v U'.heap L ∧ FrameEnd U o U' L ({ frames := 0, cells := 0, slots := 0, locals := 0 } : Room).cells ({ frames := 0, cells := 0, slots := 0, locals := 0 } : Room).slots) := by
  refine MetFree.of_bodySF (plainFor_of_name pn_c24) hisR ?_
  intro p e s m args below meth c s₁ Bd hml0 hP hK
  obtain ⟨rfl, hZ, hh⟩ := hP
  have hx := Bd.exec
  have hby := Bd.bytes
  have hml : c.maxLocals = 5 := hml0
  have hown : s.vm.findClass "com/example/kdata/kdata/LongHeapRemoveLeastPinLaw" = some m.cls := findClass_of_methodNamed Bd.named
  have hnm := (name_of_methodNamed Bd.named Bd.method).1
  have X0 : Stand p l e ({ frames := 0, cells := 0, slots := 0, locals := 0 } : Room) s m #[(.ref b1), (.int (2 : Int32)), (.int (4 : Int32))] below meth c s₁ [] 0 0 := Stand.of_body Bd
  have e0 : s₁.heap = h0 := by rw [← hh, Bd.state]; rfl
  have N0 := Fr.nil n0
  show own_Go p e below s (Qc24 Z b1 k1 x0 x1 x2 x3 x4 x5 h0 n0) ({ frames := 0, cells := 0, slots := 0, locals := 0 } : Room).cells ({ frames := 0, cells := 0, slots := 0, locals := 0 } : Room).slots (s₁.setTop (entryFrame m #[(.ref b1), (.int (2 : Int32)), (.int (4 : Int32))] 5))
  refine own_go (b := s₁.setTop (mkF m 0 #[.val (.ref b1), .val (.int (2 : Int32)), .val (.int (4 : Int32)), .unset, .unset] [])) (fun t k => castTop (ef_c24 m b1 (2 : Int32) (4 : Int32)) k) ?_
  have K0 := Keep.refl h0 [b1]
  obtain ⟨cl1, Ar1, q1, S1, M1, H1, U1⟩ := id V_b1
  have hi2 : ¬ (4 : Int32) < 0 ∧ (4 : Int32).toNatClampNeg < (6 : Int32).toNatClampNeg := by decide
  have ha2 : cl1.slots[(4 : Int32).toNatClampNeg]? = some (.long x4) := H1 _ (by rw [S1]; exact hi2.2)
  have hi3 : ¬ (2 : Int32) < 0 ∧ (2 : Int32).toNatClampNeg < (6 : Int32).toNatClampNeg := by decide
  have ha3 : cl1.slots[(2 : Int32).toNatClampNeg]? = some (.long x2) := H1 _ (by rw [S1]; exact hi3.2)
  refine own_go (b := s₁.setTop (mkF m 7 #[.val (.ref b1), .val (.int (2 : Int32)), .val (.int (4 : Int32)), .unset, .unset] [(.int (lcmpW x4 x2))])) (fun t k => ?_) ?_
  · show Steps p.tables e below (s₁.setTop (mkF m 0 #[.val (.ref b1), .val (.int (2 : Int32)), .val (.int (4 : Int32)), .unset, .unset] [])) _
    refine XS.aloadN X0.here hx rfl (hb hby dC_0) rfl rfl ?_
    show Steps p.tables e below (s₁.setTop (mkF m 1 #[.val (.ref b1), .val (.int (2 : Int32)), .val (.int (4 : Int32)), .unset, .unset] [(.ref b1)])) _
    refine XS.iloadN X0.here hx rfl (hb hby dC_1) rfl ?_
    show Steps p.tables e below (s₁.setTop (mkF m 2 #[.val (.ref b1), .val (.int (2 : Int32)), .val (.int (4 : Int32)), .unset, .unset] [(.int (4 : Int32)), (.ref b1)])) _
    refine X0.laload hx (j := (4 : Int32)) (v := (.long x4)) (by rw [e0]; exact Ar1.1) (State.isArrayOf_alike hZ.alike Ar1.2.1) Ar1.2.2 (own_hin S1 hi2) ha2 (g := (mkF m 2 #[.val (.ref b1), .val (.int (2 : Int32)), .val (.int (4 : Int32)), .unset, .unset] [(.int (4 : Int32)), (.ref b1)])) rfl rfl (hb hby dC_2) _ ?_
    show Steps p.tables e below (s₁.setTop (mkF m 3 #[.val (.ref b1), .val (.int (2 : Int32)), .val (.int (4 : Int32)), .unset, .unset] [(.long x4)])) _
    refine XS.aloadN X0.here hx rfl (hb hby dC_3) rfl rfl ?_
    show Steps p.tables e below (s₁.setTop (mkF m 4 #[.val (.ref b1), .val (.int (2 : Int32)), .val (.int (4 : Int32)), .unset, .unset] [(.ref b1), (.long x4)])) _
    refine XS.iloadN X0.here hx rfl (hb hby dC_4) rfl ?_
    show Steps p.tables e below (s₁.setTop (mkF m 5 #[.val (.ref b1), .val (.int (2 : Int32)), .val (.int (4 : Int32)), .unset, .unset] [(.int (2 : Int32)), (.ref b1), (.long x4)])) _
    refine X0.laload hx (j := (2 : Int32)) (v := (.long x2)) (by rw [e0]; exact Ar1.1) (State.isArrayOf_alike hZ.alike Ar1.2.1) Ar1.2.2 (own_hin S1 hi3) ha3 (g := (mkF m 5 #[.val (.ref b1), .val (.int (2 : Int32)), .val (.int (4 : Int32)), .unset, .unset] [(.int (2 : Int32)), (.ref b1), (.long x4)])) rfl rfl (hb hby dC_5) _ ?_
    show Steps p.tables e below (s₁.setTop (mkF m 6 #[.val (.ref b1), .val (.int (2 : Int32)), .val (.int (4 : Int32)), .unset, .unset] [(.long x2), (.long x4)])) _
    refine XS.lcmp X0.here hx rfl (hb hby dC_6) rfl ?_
    show Steps p.tables e below (s₁.setTop (mkF m 7 #[.val (.ref b1), .val (.int (2 : Int32)), .val (.int (4 : Int32)), .unset, .unset] [(.int (lcmpW x4 x2))])) _
    exact k
  by_cases hc7 : x4 < x2
  · have hi4 : ¬ (2 : Int32) < 0 ∧ (2 : Int32).toNatClampNeg < (6 : Int32).toNatClampNeg := by decide
    have ha4 : cl1.slots[(2 : Int32).toNatClampNeg]? = some (.long x2) := H1 _ (by rw [S1]; exact hi4.2)
    have hi5 : ¬ (4 : Int32) < 0 ∧ (4 : Int32).toNatClampNeg < (6 : Int32).toNatClampNeg := by decide
    have ha5 : cl1.slots[(4 : Int32).toNatClampNeg]? = some (.long x4) := H1 _ (by rw [S1]; exact hi5.2)
    obtain ⟨T6, h6, X6, e6, W6, st6⟩ := stJ X0 hx hZ e0 Ar1 (j := (2 : Int32)) (by rw [S1]; decide) (g := (mkF m 19 #[.val (.ref b1), .val (.int (2 : Int32)), .val (.int (4 : Int32)), .val (.long x2), .second] [(.long x4), (.int (2 : Int32)), (.ref b1)])) rfl rfl (hb hby dC_19)
    have N6 := Fr.snoc X6 N0 lo_b1
    obtain ⟨lc6, X6, N6⟩ := own_lc X6 N6
    have V7 : Arv Z h6 b1 k1 .long (6 : Int32) [(.long x0), (.long x1), (.long x4), (.long x3), (.long x4), (.long x5)] (.long (0 : Int64)) := Arv.set Ar1 q1 S1 M1 H1 U1 rfl W6 2 rfl (by show 2 < 6; decide)
    have K6 := K0.wr W6 (Or.inl (List.mem_of_getElem? (i := 0) rfl))
    have Z6 : n0 ≤ h6.size := by rw [W6.size]; exact Z0
    obtain ⟨cl8, Ar8, q8, S8, M8, H8, U8⟩ := id V7
    obtain ⟨T9, h9, X9, e9, W9, st9⟩ := stJ X6 hx hZ e6 Ar8 (j := (4 : Int32)) (by rw [S8]; decide) (g := (mkF m 23 #[.val (.ref b1), .val (.int (2 : Int32)), .val (.int (4 : Int32)), .val (.long x2), .second] [(.long x2), (.int (4 : Int32)), (.ref b1)])) rfl rfl (hb hby dC_23)
    have N9 := Fr.snoc X9 N6 lo_b1
    obtain ⟨lc9, X9, N9⟩ := own_lc X9 N9
    have V10 : Arv Z h9 b1 k1 .long (6 : Int32) [(.long x0), (.long x1), (.long x4), (.long x3), (.long x2), (.long x5)] (.long (0 : Int64)) := Arv.set Ar8 q8 S8 M8 H8 U8 rfl W9 4 rfl (by show 4 < 6; decide)
    have K9 := K6.wr W9 (Or.inl (List.mem_of_getElem? (i := 0) rfl))
    have Z9 : n0 ≤ h9.size := by rw [W9.size]; exact Z6
    refine own_end X9 Bd.notSynchronized (v := none) (fun _ => rfl) (fun fs hr => ?_) e9 ?_ (by decide) (by decide)
    · show Steps p.tables e below (s₁.setTop (mkF m 7 #[.val (.ref b1), .val (.int (2 : Int32)), .val (.int (4 : Int32)), .unset, .unset] [(.int (lcmpW x4 x2))])) _
      refine XS.ifNo X0.here hx rfl (hb hby dC_7) rfl ((if0 _ _).trans (tlt ((lw_lt x4 x2).mpr hc7)).2.1) ?_
      show Steps p.tables e below (s₁.setTop (mkF m 10 #[.val (.ref b1), .val (.int (2 : Int32)), .val (.int (4 : Int32)), .unset, .unset] [])) _
      refine XS.aloadN X0.here hx rfl (hb hby dC_10) rfl rfl ?_
      show Steps p.tables e below (s₁.setTop (mkF m 11 #[.val (.ref b1), .val (.int (2 : Int32)), .val (.int (4 : Int32)), .unset, .unset] [(.ref b1)])) _
      refine XS.iloadN X0.here hx rfl (hb hby dC_11) rfl ?_
      show Steps p.tables e below (s₁.setTop (mkF m 12 #[.val (.ref b1), .val (.int (2 : Int32)), .val (.int (4 : Int32)), .unset, .unset] [(.int (2 : Int32)), (.ref b1)])) _
      refine X0.laload hx (j := (2 : Int32)) (v := (.long x2)) (by rw [e0]; exact Ar1.1) (State.isArrayOf_alike hZ.alike Ar1.2.1) Ar1.2.2 (own_hin S1 hi4) ha4 (g := (mkF m 12 #[.val (.ref b1), .val (.int (2 : Int32)), .val (.int (4 : Int32)), .unset, .unset] [(.int (2 : Int32)), (.ref b1)])) rfl rfl (hb hby dC_12) _ ?_
      show Steps p.tables e below (s₁.setTop (mkF m 13 #[.val (.ref b1), .val (.int (2 : Int32)), .val (.int (4 : Int32)), .unset, .unset] [(.long x2)])) _
      refine XS.lstoreN X0.here hx rfl (hb hby dC_13) rfl (l' := #[.val (.ref b1), .val (.int (2 : Int32)), .val (.int (4 : Int32)), .val (.long x2), .second]) rfl ?_
      show Steps p.tables e below (s₁.setTop (mkF m 14 #[.val (.ref b1), .val (.int (2 : Int32)), .val (.int (4 : Int32)), .val (.long x2), .second] [])) _
      refine XS.aloadN X0.here hx rfl (hb hby dC_14) rfl rfl ?_
      show Steps p.tables e below (s₁.setTop (mkF m 15 #[.val (.ref b1), .val (.int (2 : Int32)), .val (.int (4 : Int32)), .val (.long x2), .second] [(.ref b1)])) _
      refine XS.iloadN X0.here hx rfl (hb hby dC_15) rfl ?_
      show Steps p.tables e below (s₁.setTop (mkF m 16 #[.val (.ref b1), .val (.int (2 : Int32)), .val (.int (4 : Int32)), .val (.long x2), .second] [(.int (2 : Int32)), (.ref b1)])) _
      refine XS.aloadN X0.here hx rfl (hb hby dC_16) rfl rfl ?_
      show Steps p.tables e below (s₁.setTop (mkF m 17 #[.val (.ref b1), .val (.int (2 : Int32)), .val (.int (4 : Int32)), .val (.long x2), .second] [(.ref b1), (.int (2 : Int32)), (.ref b1)])) _
      refine XS.iloadN X0.here hx rfl (hb hby dC_17) rfl ?_
      show Steps p.tables e below (s₁.setTop (mkF m 18 #[.val (.ref b1), .val (.int (2 : Int32)), .val (.int (4 : Int32)), .val (.long x2), .second] [(.int (4 : Int32)), (.ref b1), (.int (2 : Int32)), (.ref b1)])) _
      refine X0.laload hx (j := (4 : Int32)) (v := (.long x4)) (by rw [e0]; exact Ar1.1) (State.isArrayOf_alike hZ.alike Ar1.2.1) Ar1.2.2 (own_hin S1 hi5) ha5 (g := (mkF m 18 #[.val (.ref b1), .val (.int (2 : Int32)), .val (.int (4 : Int32)), .val (.long x2), .second] [(.int (4 : Int32)), (.ref b1), (.int (2 : Int32)), (.ref b1)])) rfl rfl (hb hby dC_18) _ ?_
      show Steps p.tables e below (s₁.setTop (mkF m 19 #[.val (.ref b1), .val (.int (2 : Int32)), .val (.int (4 : Int32)), .val (.long x2), .second] [(.long x4), (.int (2 : Int32)), (.ref b1)])) _
      refine st6 _ ?_
      show Steps p.tables e below (T6.setTop (mkF m 20 #[.val (.ref b1), .val (.int (2 : Int32)), .val (.int (4 : Int32)), .val (.long x2), .second] [])) _
      refine XS.aloadN X6.here hx rfl (hb hby dC_20) rfl rfl ?_
      show Steps p.tables e below (T6.setTop (mkF m 21 #[.val (.ref b1), .val (.int (2 : Int32)), .val (.int (4 : Int32)), .val (.long x2), .second] [(.ref b1)])) _
      refine XS.iloadN X6.here hx rfl (hb hby dC_21) rfl ?_
      show Steps p.tables e below (T6.setTop (mkF m 22 #[.val (.ref b1), .val (.int (2 : Int32)), .val (.int (4 : Int32)), .val (.long x2), .second] [(.int (4 : Int32)), (.ref b1)])) _
      refine XS.lloadN X6.here hx rfl (hb hby dC_22) rfl ?_
      show Steps p.tables e below (T6.setTop (mkF m 23 #[.val (.ref b1), .val (.int (2 : Int32)), .val (.int (4 : Int32)), .val (.long x2), .second] [(.long x2), (.int (4 : Int32)), (.ref b1)])) _
      refine st9 _ ?_
      show Steps p.tables e below (T9.setTop (mkF m 24 #[.val (.ref b1), .val (.int (2 : Int32)), .val (.int (4 : Int32)), .val (.long x2), .second] [])) _
      exact X9.returnOut hx Bd.returns (hb hby dC_24) hr
    · exact ⟨rfl, N9, K9, _, _, _, _, _, _, by rw [own_cs_24, if_pos hc7], V10⟩
  · refine own_end X0 Bd.notSynchronized (v := none) (fun _ => rfl) (fun fs hr => ?_) e0 ?_ (by decide) (by decide)
    · show Steps p.tables e below (s₁.setTop (mkF m 7 #[.val (.ref b1), .val (.int (2 : Int32)), .val (.int (4 : Int32)), .unset, .unset] [(.int (lcmpW x4 x2))])) _
      refine XS.ifYes X0.here hx rfl (pc0 := 7) (pc' := 24) rfl (hb hby dC_7) rfl ((if0 _ _).trans (flt (fun q => hc7 ((lw_lt x4 x2).mp q))).2.1) (by decide) (by decide) ?_
      show Steps p.tables e below (s₁.setTop (mkF m 24 #[.val (.ref b1), .val (.int (2 : Int32)), .val (.int (4 : Int32)), .unset, .unset] [])) _
      exact X0.returnOut hx Bd.returns (hb hby dC_24) hr
    · exact ⟨rfl, N0, K0, _, _, _, _, _, _, by rw [own_cs_24, if_neg hc7], V_b1⟩
def own_cs_13 (x0 : Int64) (x1 : Int64) (x2 : Int64) (x3 : Int64) (x4 : Int64) (x5 : Int64) : List Int64 :=
  if x3 < x1 then
    [x0, x3, x2, x1, x4, x5]
  else
    [x0, x1, x2, x3, x4, x5]
theorem pn_c13 : plainName "com/example/kdata/kdata/LongHeapRemoveLeastPinLaw" = true := by first | (simp [plainName, overriddenIn]; done) | decide +kernel
theorem ef_c13 (m : MethodId) (x0 : Addr) (x1 : Int32) (x2 : Int32) : entryFrame m #[(.ref x0), (.int x1), (.int x2)] 5 = mkF m 0 #[.val (.ref x0), .val (.int x1), .val (.int x2), .unset, .unset] [] := by first | (simp [entryFrame, mkF, argsToLocals, Value.category]; done) | rfl
def Qc13 (Z : State) (b1 : Addr) (k1 : ClassId) (x0 : Int64) (x1 : Int64) (x2 : Int64) (x3 : Int64) (x4 : Int64) (x5 : Int64) (h0 : Heap) (n0 : Nat) (v : Option Value) (h : Heap) (L : List Loc) : Prop := v = none ∧ Fr n0 L ∧ Keep h0 h [b1] ∧ ∃ z0 z1 z2 z3 z4 z5 : Int64, [z0, z1, z2, z3, z4, z5] = own_cs_13 x0 x1 x2 x3 x4 x5 ∧ Arv Z h b1 k1 .long (6 : Int32) [(.long z0), (.long z1), (.long z2), (.long z3), (.long z4), (.long z5)] (.long (0 : Int64))
set_option maxRecDepth 65536 in
set_option maxHeartbeats 40000000 in
theorem rmc13 (l : Launch) (Z : State) (a0 : Array Value) (hw : ∀ d ∈ tables_1, d.before a0 Z = true) (ws : List Jvm.Cond)  (b1 : Addr) (k1 : ClassId) (x0 : Int64) (x1 : Int64) (x2 : Int64) (x3 : Int64) (x4 : Int64) (x5 : Int64) (h0 : Heap) (n0 : Nat) (Z0 : n0 ≤ h0.size) (V_b1 : Arv Z h0 b1 k1 .long (6 : Int32) [(.long x0), (.long x1), (.long x2), (.long x3), (.long x4), (.long x5)] (.long (0 : Int64))) (lo_b1 : n0 ≤ b1) :
    MetFree l (⟨"com/example/kdata/kdata/LongHeapRemoveLeastPinLaw", "cs", "([JII)V"⟩ : MethodName) (head1 (Jvm.Cond.code (⟨"com/example/kdata/kdata/LongHeapRemoveLeastPinLaw", "cs", "([JII)V"⟩ : MethodName) method_2_code 5 none :: ws) ({ frames := 0, cells := 0, slots := 0, locals := 0 } : Room)) (fun a U => a = #[(.ref b1), (.int (1 : Int32)), (.int (3 : Int32))] ∧ Z.Warmed39 U.vm ∧ U.heap = h0) (fun _ _ _ _ _ => True) (fun _ U o U' => ∃ v L, o = .returned v ∧ Qc13 Z b1 k1 x0 x1 x2 x3 x4 x5 h0 n0 v U'.heap L ∧ FrameEnd U o U' L ({ frames := 0, cells := 0, slots := 0, locals := 0 } : Room).cells ({ frames := 0, cells := 0, slots := 0, locals := 0 } : Room).slots) := by
  refine MetFree.of_bodySF (plainFor_of_name pn_c13) hisR ?_
  intro p e s m args below meth c s₁ Bd hml0 hP hK
  obtain ⟨rfl, hZ, hh⟩ := hP
  have hx := Bd.exec
  have hby := Bd.bytes
  have hml : c.maxLocals = 5 := hml0
  have hown : s.vm.findClass "com/example/kdata/kdata/LongHeapRemoveLeastPinLaw" = some m.cls := findClass_of_methodNamed Bd.named
  have hnm := (name_of_methodNamed Bd.named Bd.method).1
  have X0 : Stand p l e ({ frames := 0, cells := 0, slots := 0, locals := 0 } : Room) s m #[(.ref b1), (.int (1 : Int32)), (.int (3 : Int32))] below meth c s₁ [] 0 0 := Stand.of_body Bd
  have e0 : s₁.heap = h0 := by rw [← hh, Bd.state]; rfl
  have N0 := Fr.nil n0
  show own_Go p e below s (Qc13 Z b1 k1 x0 x1 x2 x3 x4 x5 h0 n0) ({ frames := 0, cells := 0, slots := 0, locals := 0 } : Room).cells ({ frames := 0, cells := 0, slots := 0, locals := 0 } : Room).slots (s₁.setTop (entryFrame m #[(.ref b1), (.int (1 : Int32)), (.int (3 : Int32))] 5))
  refine own_go (b := s₁.setTop (mkF m 0 #[.val (.ref b1), .val (.int (1 : Int32)), .val (.int (3 : Int32)), .unset, .unset] [])) (fun t k => castTop (ef_c13 m b1 (1 : Int32) (3 : Int32)) k) ?_
  have K0 := Keep.refl h0 [b1]
  obtain ⟨cl1, Ar1, q1, S1, M1, H1, U1⟩ := id V_b1
  have hi2 : ¬ (3 : Int32) < 0 ∧ (3 : Int32).toNatClampNeg < (6 : Int32).toNatClampNeg := by decide
  have ha2 : cl1.slots[(3 : Int32).toNatClampNeg]? = some (.long x3) := H1 _ (by rw [S1]; exact hi2.2)
  have hi3 : ¬ (1 : Int32) < 0 ∧ (1 : Int32).toNatClampNeg < (6 : Int32).toNatClampNeg := by decide
  have ha3 : cl1.slots[(1 : Int32).toNatClampNeg]? = some (.long x1) := H1 _ (by rw [S1]; exact hi3.2)
  refine own_go (b := s₁.setTop (mkF m 7 #[.val (.ref b1), .val (.int (1 : Int32)), .val (.int (3 : Int32)), .unset, .unset] [(.int (lcmpW x3 x1))])) (fun t k => ?_) ?_
  · show Steps p.tables e below (s₁.setTop (mkF m 0 #[.val (.ref b1), .val (.int (1 : Int32)), .val (.int (3 : Int32)), .unset, .unset] [])) _
    refine XS.aloadN X0.here hx rfl (hb hby dC_0) rfl rfl ?_
    show Steps p.tables e below (s₁.setTop (mkF m 1 #[.val (.ref b1), .val (.int (1 : Int32)), .val (.int (3 : Int32)), .unset, .unset] [(.ref b1)])) _
    refine XS.iloadN X0.here hx rfl (hb hby dC_1) rfl ?_
    show Steps p.tables e below (s₁.setTop (mkF m 2 #[.val (.ref b1), .val (.int (1 : Int32)), .val (.int (3 : Int32)), .unset, .unset] [(.int (3 : Int32)), (.ref b1)])) _
    refine X0.laload hx (j := (3 : Int32)) (v := (.long x3)) (by rw [e0]; exact Ar1.1) (State.isArrayOf_alike hZ.alike Ar1.2.1) Ar1.2.2 (own_hin S1 hi2) ha2 (g := (mkF m 2 #[.val (.ref b1), .val (.int (1 : Int32)), .val (.int (3 : Int32)), .unset, .unset] [(.int (3 : Int32)), (.ref b1)])) rfl rfl (hb hby dC_2) _ ?_
    show Steps p.tables e below (s₁.setTop (mkF m 3 #[.val (.ref b1), .val (.int (1 : Int32)), .val (.int (3 : Int32)), .unset, .unset] [(.long x3)])) _
    refine XS.aloadN X0.here hx rfl (hb hby dC_3) rfl rfl ?_
    show Steps p.tables e below (s₁.setTop (mkF m 4 #[.val (.ref b1), .val (.int (1 : Int32)), .val (.int (3 : Int32)), .unset, .unset] [(.ref b1), (.long x3)])) _
    refine XS.iloadN X0.here hx rfl (hb hby dC_4) rfl ?_
    show Steps p.tables e below (s₁.setTop (mkF m 5 #[.val (.ref b1), .val (.int (1 : Int32)), .val (.int (3 : Int32)), .unset, .unset] [(.int (1 : Int32)), (.ref b1), (.long x3)])) _
    refine X0.laload hx (j := (1 : Int32)) (v := (.long x1)) (by rw [e0]; exact Ar1.1) (State.isArrayOf_alike hZ.alike Ar1.2.1) Ar1.2.2 (own_hin S1 hi3) ha3 (g := (mkF m 5 #[.val (.ref b1), .val (.int (1 : Int32)), .val (.int (3 : Int32)), .unset, .unset] [(.int (1 : Int32)), (.ref b1), (.long x3)])) rfl rfl (hb hby dC_5) _ ?_
    show Steps p.tables e below (s₁.setTop (mkF m 6 #[.val (.ref b1), .val (.int (1 : Int32)), .val (.int (3 : Int32)), .unset, .unset] [(.long x1), (.long x3)])) _
    refine XS.lcmp X0.here hx rfl (hb hby dC_6) rfl ?_
    show Steps p.tables e below (s₁.setTop (mkF m 7 #[.val (.ref b1), .val (.int (1 : Int32)), .val (.int (3 : Int32)), .unset, .unset] [(.int (lcmpW x3 x1))])) _
    exact k
  by_cases hc7 : x3 < x1
  · have hi4 : ¬ (1 : Int32) < 0 ∧ (1 : Int32).toNatClampNeg < (6 : Int32).toNatClampNeg := by decide
    have ha4 : cl1.slots[(1 : Int32).toNatClampNeg]? = some (.long x1) := H1 _ (by rw [S1]; exact hi4.2)
    have hi5 : ¬ (3 : Int32) < 0 ∧ (3 : Int32).toNatClampNeg < (6 : Int32).toNatClampNeg := by decide
    have ha5 : cl1.slots[(3 : Int32).toNatClampNeg]? = some (.long x3) := H1 _ (by rw [S1]; exact hi5.2)
    obtain ⟨T6, h6, X6, e6, W6, st6⟩ := stJ X0 hx hZ e0 Ar1 (j := (1 : Int32)) (by rw [S1]; decide) (g := (mkF m 19 #[.val (.ref b1), .val (.int (1 : Int32)), .val (.int (3 : Int32)), .val (.long x1), .second] [(.long x3), (.int (1 : Int32)), (.ref b1)])) rfl rfl (hb hby dC_19)
    have N6 := Fr.snoc X6 N0 lo_b1
    obtain ⟨lc6, X6, N6⟩ := own_lc X6 N6
    have V7 : Arv Z h6 b1 k1 .long (6 : Int32) [(.long x0), (.long x3), (.long x2), (.long x3), (.long x4), (.long x5)] (.long (0 : Int64)) := Arv.set Ar1 q1 S1 M1 H1 U1 rfl W6 1 rfl (by show 1 < 6; decide)
    have K6 := K0.wr W6 (Or.inl (List.mem_of_getElem? (i := 0) rfl))
    have Z6 : n0 ≤ h6.size := by rw [W6.size]; exact Z0
    obtain ⟨cl8, Ar8, q8, S8, M8, H8, U8⟩ := id V7
    obtain ⟨T9, h9, X9, e9, W9, st9⟩ := stJ X6 hx hZ e6 Ar8 (j := (3 : Int32)) (by rw [S8]; decide) (g := (mkF m 23 #[.val (.ref b1), .val (.int (1 : Int32)), .val (.int (3 : Int32)), .val (.long x1), .second] [(.long x1), (.int (3 : Int32)), (.ref b1)])) rfl rfl (hb hby dC_23)
    have N9 := Fr.snoc X9 N6 lo_b1
    obtain ⟨lc9, X9, N9⟩ := own_lc X9 N9
    have V10 : Arv Z h9 b1 k1 .long (6 : Int32) [(.long x0), (.long x3), (.long x2), (.long x1), (.long x4), (.long x5)] (.long (0 : Int64)) := Arv.set Ar8 q8 S8 M8 H8 U8 rfl W9 3 rfl (by show 3 < 6; decide)
    have K9 := K6.wr W9 (Or.inl (List.mem_of_getElem? (i := 0) rfl))
    have Z9 : n0 ≤ h9.size := by rw [W9.size]; exact Z6
    refine own_end X9 Bd.notSynchronized (v := none) (fun _ => rfl) (fun fs hr => ?_) e9 ?_ (by decide) (by decide)
    · show Steps p.tables e below (s₁.setTop (mkF m 7 #[.val (.ref b1), .val (.int (1 : Int32)), .val (.int (3 : Int32)), .unset, .unset] [(.int (lcmpW x3 x1))])) _
      refine XS.ifNo X0.here hx rfl (hb hby dC_7) rfl ((if0 _ _).trans (tlt ((lw_lt x3 x1).mpr hc7)).2.1) ?_
      show Steps p.tables e below (s₁.setTop (mkF m 10 #[.val (.ref b1), .val (.int (1 : Int32)), .val (.int (3 : Int32)), .unset, .unset] [])) _
      refine XS.aloadN X0.here hx rfl (hb hby dC_10) rfl rfl ?_
      show Steps p.tables e below (s₁.setTop (mkF m 11 #[.val (.ref b1), .val (.int (1 : Int32)), .val (.int (3 : Int32)), .unset, .unset] [(.ref b1)])) _
      refine XS.iloadN X0.here hx rfl (hb hby dC_11) rfl ?_
      show Steps p.tables e below (s₁.setTop (mkF m 12 #[.val (.ref b1), .val (.int (1 : Int32)), .val (.int (3 : Int32)), .unset, .unset] [(.int (1 : Int32)), (.ref b1)])) _
      refine X0.laload hx (j := (1 : Int32)) (v := (.long x1)) (by rw [e0]; exact Ar1.1) (State.isArrayOf_alike hZ.alike Ar1.2.1) Ar1.2.2 (own_hin S1 hi4) ha4 (g := (mkF m 12 #[.val (.ref b1), .val (.int (1 : Int32)), .val (.int (3 : Int32)), .unset, .unset] [(.int (1 : Int32)), (.ref b1)])) rfl rfl (hb hby dC_12) _ ?_
      show Steps p.tables e below (s₁.setTop (mkF m 13 #[.val (.ref b1), .val (.int (1 : Int32)), .val (.int (3 : Int32)), .unset, .unset] [(.long x1)])) _
      refine XS.lstoreN X0.here hx rfl (hb hby dC_13) rfl (l' := #[.val (.ref b1), .val (.int (1 : Int32)), .val (.int (3 : Int32)), .val (.long x1), .second]) rfl ?_
      show Steps p.tables e below (s₁.setTop (mkF m 14 #[.val (.ref b1), .val (.int (1 : Int32)), .val (.int (3 : Int32)), .val (.long x1), .second] [])) _
      refine XS.aloadN X0.here hx rfl (hb hby dC_14) rfl rfl ?_
      show Steps p.tables e below (s₁.setTop (mkF m 15 #[.val (.ref b1), .val (.int (1 : Int32)), .val (.int (3 : Int32)), .val (.long x1), .second] [(.ref b1)])) _
      refine XS.iloadN X0.here hx rfl (hb hby dC_15) rfl ?_
      show Steps p.tables e below (s₁.setTop (mkF m 16 #[.val (.ref b1), .val (.int (1 : Int32)), .val (.int (3 : Int32)), .val (.long x1), .second] [(.int (1 : Int32)), (.ref b1)])) _
      refine XS.aloadN X0.here hx rfl (hb hby dC_16) rfl rfl ?_
      show Steps p.tables e below (s₁.setTop (mkF m 17 #[.val (.ref b1), .val (.int (1 : Int32)), .val (.int (3 : Int32)), .val (.long x1), .second] [(.ref b1), (.int (1 : Int32)), (.ref b1)])) _
      refine XS.iloadN X0.here hx rfl (hb hby dC_17) rfl ?_
      show Steps p.tables e below (s₁.setTop (mkF m 18 #[.val (.ref b1), .val (.int (1 : Int32)), .val (.int (3 : Int32)), .val (.long x1), .second] [(.int (3 : Int32)), (.ref b1), (.int (1 : Int32)), (.ref b1)])) _
      refine X0.laload hx (j := (3 : Int32)) (v := (.long x3)) (by rw [e0]; exact Ar1.1) (State.isArrayOf_alike hZ.alike Ar1.2.1) Ar1.2.2 (own_hin S1 hi5) ha5 (g := (mkF m 18 #[.val (.ref b1), .val (.int (1 : Int32)), .val (.int (3 : Int32)), .val (.long x1), .second] [(.int (3 : Int32)), (.ref b1), (.int (1 : Int32)), (.ref b1)])) rfl rfl (hb hby dC_18) _ ?_
      show Steps p.tables e below (s₁.setTop (mkF m 19 #[.val (.ref b1), .val (.int (1 : Int32)), .val (.int (3 : Int32)), .val (.long x1), .second] [(.long x3), (.int (1 : Int32)), (.ref b1)])) _
      refine st6 _ ?_
      show Steps p.tables e below (T6.setTop (mkF m 20 #[.val (.ref b1), .val (.int (1 : Int32)), .val (.int (3 : Int32)), .val (.long x1), .second] [])) _
      refine XS.aloadN X6.here hx rfl (hb hby dC_20) rfl rfl ?_
      show Steps p.tables e below (T6.setTop (mkF m 21 #[.val (.ref b1), .val (.int (1 : Int32)), .val (.int (3 : Int32)), .val (.long x1), .second] [(.ref b1)])) _
      refine XS.iloadN X6.here hx rfl (hb hby dC_21) rfl ?_
      show Steps p.tables e below (T6.setTop (mkF m 22 #[.val (.ref b1), .val (.int (1 : Int32)), .val (.int (3 : Int32)), .val (.long x1), .second] [(.int (3 : Int32)), (.ref b1)])) _
      refine XS.lloadN X6.here hx rfl (hb hby dC_22) rfl ?_
      show Steps p.tables e below (T6.setTop (mkF m 23 #[.val (.ref b1), .val (.int (1 : Int32)), .val (.int (3 : Int32)), .val (.long x1), .second] [(.long x1), (.int (3 : Int32)), (.ref b1)])) _
      refine st9 _ ?_
      show Steps p.tables e below (T9.setTop (mkF m 24 #[.val (.ref b1), .val (.int (1 : Int32)), .val (.int (3 : Int32)), .val (.long x1), .second] [])) _
      exact X9.returnOut hx Bd.returns (hb hby dC_24) hr
    · exact ⟨rfl, N9, K9, _, _, _, _, _, _, by rw [own_cs_13, if_pos hc7], V10⟩
  · refine own_end X0 Bd.notSynchronized (v := none) (fun _ => rfl) (fun fs hr => ?_) e0 ?_ (by decide) (by decide)
    · show Steps p.tables e below (s₁.setTop (mkF m 7 #[.val (.ref b1), .val (.int (1 : Int32)), .val (.int (3 : Int32)), .unset, .unset] [(.int (lcmpW x3 x1))])) _
      refine XS.ifYes X0.here hx rfl (pc0 := 7) (pc' := 24) rfl (hb hby dC_7) rfl ((if0 _ _).trans (flt (fun q => hc7 ((lw_lt x3 x1).mp q))).2.1) (by decide) (by decide) ?_
      show Steps p.tables e below (s₁.setTop (mkF m 24 #[.val (.ref b1), .val (.int (1 : Int32)), .val (.int (3 : Int32)), .unset, .unset] [])) _
      exact X0.returnOut hx Bd.returns (hb hby dC_24) hr
    · exact ⟨rfl, N0, K0, _, _, _, _, _, _, by rw [own_cs_13, if_neg hc7], V_b1⟩
def own_cs_23 (x0 : Int64) (x1 : Int64) (x2 : Int64) (x3 : Int64) (x4 : Int64) (x5 : Int64) : List Int64 :=
  if x3 < x2 then
    [x0, x1, x3, x2, x4, x5]
  else
    [x0, x1, x2, x3, x4, x5]
theorem pn_c23 : plainName "com/example/kdata/kdata/LongHeapRemoveLeastPinLaw" = true := by first | (simp [plainName, overriddenIn]; done) | decide +kernel
theorem ef_c23 (m : MethodId) (x0 : Addr) (x1 : Int32) (x2 : Int32) : entryFrame m #[(.ref x0), (.int x1), (.int x2)] 5 = mkF m 0 #[.val (.ref x0), .val (.int x1), .val (.int x2), .unset, .unset] [] := by first | (simp [entryFrame, mkF, argsToLocals, Value.category]; done) | rfl
def Qc23 (Z : State) (b1 : Addr) (k1 : ClassId) (x0 : Int64) (x1 : Int64) (x2 : Int64) (x3 : Int64) (x4 : Int64) (x5 : Int64) (h0 : Heap) (n0 : Nat) (v : Option Value) (h : Heap) (L : List Loc) : Prop := v = none ∧ Fr n0 L ∧ Keep h0 h [b1] ∧ ∃ z0 z1 z2 z3 z4 z5 : Int64, [z0, z1, z2, z3, z4, z5] = own_cs_23 x0 x1 x2 x3 x4 x5 ∧ Arv Z h b1 k1 .long (6 : Int32) [(.long z0), (.long z1), (.long z2), (.long z3), (.long z4), (.long z5)] (.long (0 : Int64))
set_option maxRecDepth 65536 in
set_option maxHeartbeats 40000000 in
theorem rmc23 (l : Launch) (Z : State) (a0 : Array Value) (hw : ∀ d ∈ tables_1, d.before a0 Z = true) (ws : List Jvm.Cond)  (b1 : Addr) (k1 : ClassId) (x0 : Int64) (x1 : Int64) (x2 : Int64) (x3 : Int64) (x4 : Int64) (x5 : Int64) (h0 : Heap) (n0 : Nat) (Z0 : n0 ≤ h0.size) (V_b1 : Arv Z h0 b1 k1 .long (6 : Int32) [(.long x0), (.long x1), (.long x2), (.long x3), (.long x4), (.long x5)] (.long (0 : Int64))) (lo_b1 : n0 ≤ b1) :
    MetFree l (⟨"com/example/kdata/kdata/LongHeapRemoveLeastPinLaw", "cs", "([JII)V"⟩ : MethodName) (head1 (Jvm.Cond.code (⟨"com/example/kdata/kdata/LongHeapRemoveLeastPinLaw", "cs", "([JII)V"⟩ : MethodName) method_2_code 5 none :: ws) ({ frames := 0, cells := 0, slots := 0, locals := 0 } : Room)) (fun a U => a = #[(.ref b1), (.int (2 : Int32)), (.int (3 : Int32))] ∧ Z.Warmed39 U.vm ∧ U.heap = h0) (fun _ _ _ _ _ => True) (fun _ U o U' => ∃ v L, o = .returned v ∧ Qc23 Z b1 k1 x0 x1 x2 x3 x4 x5 h0 n0 v U'.heap L ∧ FrameEnd U o U' L ({ frames := 0, cells := 0, slots := 0, locals := 0 } : Room).cells ({ frames := 0, cells := 0, slots := 0, locals := 0 } : Room).slots) := by
  refine MetFree.of_bodySF (plainFor_of_name pn_c23) hisR ?_
  intro p e s m args below meth c s₁ Bd hml0 hP hK
  obtain ⟨rfl, hZ, hh⟩ := hP
  have hx := Bd.exec
  have hby := Bd.bytes
  have hml : c.maxLocals = 5 := hml0
  have hown : s.vm.findClass "com/example/kdata/kdata/LongHeapRemoveLeastPinLaw" = some m.cls := findClass_of_methodNamed Bd.named
  have hnm := (name_of_methodNamed Bd.named Bd.method).1
  have X0 : Stand p l e ({ frames := 0, cells := 0, slots := 0, locals := 0 } : Room) s m #[(.ref b1), (.int (2 : Int32)), (.int (3 : Int32))] below meth c s₁ [] 0 0 := Stand.of_body Bd
  have e0 : s₁.heap = h0 := by rw [← hh, Bd.state]; rfl
  have N0 := Fr.nil n0
  show own_Go p e below s (Qc23 Z b1 k1 x0 x1 x2 x3 x4 x5 h0 n0) ({ frames := 0, cells := 0, slots := 0, locals := 0 } : Room).cells ({ frames := 0, cells := 0, slots := 0, locals := 0 } : Room).slots (s₁.setTop (entryFrame m #[(.ref b1), (.int (2 : Int32)), (.int (3 : Int32))] 5))
  refine own_go (b := s₁.setTop (mkF m 0 #[.val (.ref b1), .val (.int (2 : Int32)), .val (.int (3 : Int32)), .unset, .unset] [])) (fun t k => castTop (ef_c23 m b1 (2 : Int32) (3 : Int32)) k) ?_
  have K0 := Keep.refl h0 [b1]
  obtain ⟨cl1, Ar1, q1, S1, M1, H1, U1⟩ := id V_b1
  have hi2 : ¬ (3 : Int32) < 0 ∧ (3 : Int32).toNatClampNeg < (6 : Int32).toNatClampNeg := by decide
  have ha2 : cl1.slots[(3 : Int32).toNatClampNeg]? = some (.long x3) := H1 _ (by rw [S1]; exact hi2.2)
  have hi3 : ¬ (2 : Int32) < 0 ∧ (2 : Int32).toNatClampNeg < (6 : Int32).toNatClampNeg := by decide
  have ha3 : cl1.slots[(2 : Int32).toNatClampNeg]? = some (.long x2) := H1 _ (by rw [S1]; exact hi3.2)
  refine own_go (b := s₁.setTop (mkF m 7 #[.val (.ref b1), .val (.int (2 : Int32)), .val (.int (3 : Int32)), .unset, .unset] [(.int (lcmpW x3 x2))])) (fun t k => ?_) ?_
  · show Steps p.tables e below (s₁.setTop (mkF m 0 #[.val (.ref b1), .val (.int (2 : Int32)), .val (.int (3 : Int32)), .unset, .unset] [])) _
    refine XS.aloadN X0.here hx rfl (hb hby dC_0) rfl rfl ?_
    show Steps p.tables e below (s₁.setTop (mkF m 1 #[.val (.ref b1), .val (.int (2 : Int32)), .val (.int (3 : Int32)), .unset, .unset] [(.ref b1)])) _
    refine XS.iloadN X0.here hx rfl (hb hby dC_1) rfl ?_
    show Steps p.tables e below (s₁.setTop (mkF m 2 #[.val (.ref b1), .val (.int (2 : Int32)), .val (.int (3 : Int32)), .unset, .unset] [(.int (3 : Int32)), (.ref b1)])) _
    refine X0.laload hx (j := (3 : Int32)) (v := (.long x3)) (by rw [e0]; exact Ar1.1) (State.isArrayOf_alike hZ.alike Ar1.2.1) Ar1.2.2 (own_hin S1 hi2) ha2 (g := (mkF m 2 #[.val (.ref b1), .val (.int (2 : Int32)), .val (.int (3 : Int32)), .unset, .unset] [(.int (3 : Int32)), (.ref b1)])) rfl rfl (hb hby dC_2) _ ?_
    show Steps p.tables e below (s₁.setTop (mkF m 3 #[.val (.ref b1), .val (.int (2 : Int32)), .val (.int (3 : Int32)), .unset, .unset] [(.long x3)])) _
    refine XS.aloadN X0.here hx rfl (hb hby dC_3) rfl rfl ?_
    show Steps p.tables e below (s₁.setTop (mkF m 4 #[.val (.ref b1), .val (.int (2 : Int32)), .val (.int (3 : Int32)), .unset, .unset] [(.ref b1), (.long x3)])) _
    refine XS.iloadN X0.here hx rfl (hb hby dC_4) rfl ?_
    show Steps p.tables e below (s₁.setTop (mkF m 5 #[.val (.ref b1), .val (.int (2 : Int32)), .val (.int (3 : Int32)), .unset, .unset] [(.int (2 : Int32)), (.ref b1), (.long x3)])) _
    refine X0.laload hx (j := (2 : Int32)) (v := (.long x2)) (by rw [e0]; exact Ar1.1) (State.isArrayOf_alike hZ.alike Ar1.2.1) Ar1.2.2 (own_hin S1 hi3) ha3 (g := (mkF m 5 #[.val (.ref b1), .val (.int (2 : Int32)), .val (.int (3 : Int32)), .unset, .unset] [(.int (2 : Int32)), (.ref b1), (.long x3)])) rfl rfl (hb hby dC_5) _ ?_
    show Steps p.tables e below (s₁.setTop (mkF m 6 #[.val (.ref b1), .val (.int (2 : Int32)), .val (.int (3 : Int32)), .unset, .unset] [(.long x2), (.long x3)])) _
    refine XS.lcmp X0.here hx rfl (hb hby dC_6) rfl ?_
    show Steps p.tables e below (s₁.setTop (mkF m 7 #[.val (.ref b1), .val (.int (2 : Int32)), .val (.int (3 : Int32)), .unset, .unset] [(.int (lcmpW x3 x2))])) _
    exact k
  by_cases hc7 : x3 < x2
  · have hi4 : ¬ (2 : Int32) < 0 ∧ (2 : Int32).toNatClampNeg < (6 : Int32).toNatClampNeg := by decide
    have ha4 : cl1.slots[(2 : Int32).toNatClampNeg]? = some (.long x2) := H1 _ (by rw [S1]; exact hi4.2)
    have hi5 : ¬ (3 : Int32) < 0 ∧ (3 : Int32).toNatClampNeg < (6 : Int32).toNatClampNeg := by decide
    have ha5 : cl1.slots[(3 : Int32).toNatClampNeg]? = some (.long x3) := H1 _ (by rw [S1]; exact hi5.2)
    obtain ⟨T6, h6, X6, e6, W6, st6⟩ := stJ X0 hx hZ e0 Ar1 (j := (2 : Int32)) (by rw [S1]; decide) (g := (mkF m 19 #[.val (.ref b1), .val (.int (2 : Int32)), .val (.int (3 : Int32)), .val (.long x2), .second] [(.long x3), (.int (2 : Int32)), (.ref b1)])) rfl rfl (hb hby dC_19)
    have N6 := Fr.snoc X6 N0 lo_b1
    obtain ⟨lc6, X6, N6⟩ := own_lc X6 N6
    have V7 : Arv Z h6 b1 k1 .long (6 : Int32) [(.long x0), (.long x1), (.long x3), (.long x3), (.long x4), (.long x5)] (.long (0 : Int64)) := Arv.set Ar1 q1 S1 M1 H1 U1 rfl W6 2 rfl (by show 2 < 6; decide)
    have K6 := K0.wr W6 (Or.inl (List.mem_of_getElem? (i := 0) rfl))
    have Z6 : n0 ≤ h6.size := by rw [W6.size]; exact Z0
    obtain ⟨cl8, Ar8, q8, S8, M8, H8, U8⟩ := id V7
    obtain ⟨T9, h9, X9, e9, W9, st9⟩ := stJ X6 hx hZ e6 Ar8 (j := (3 : Int32)) (by rw [S8]; decide) (g := (mkF m 23 #[.val (.ref b1), .val (.int (2 : Int32)), .val (.int (3 : Int32)), .val (.long x2), .second] [(.long x2), (.int (3 : Int32)), (.ref b1)])) rfl rfl (hb hby dC_23)
    have N9 := Fr.snoc X9 N6 lo_b1
    obtain ⟨lc9, X9, N9⟩ := own_lc X9 N9
    have V10 : Arv Z h9 b1 k1 .long (6 : Int32) [(.long x0), (.long x1), (.long x3), (.long x2), (.long x4), (.long x5)] (.long (0 : Int64)) := Arv.set Ar8 q8 S8 M8 H8 U8 rfl W9 3 rfl (by show 3 < 6; decide)
    have K9 := K6.wr W9 (Or.inl (List.mem_of_getElem? (i := 0) rfl))
    have Z9 : n0 ≤ h9.size := by rw [W9.size]; exact Z6
    refine own_end X9 Bd.notSynchronized (v := none) (fun _ => rfl) (fun fs hr => ?_) e9 ?_ (by decide) (by decide)
    · show Steps p.tables e below (s₁.setTop (mkF m 7 #[.val (.ref b1), .val (.int (2 : Int32)), .val (.int (3 : Int32)), .unset, .unset] [(.int (lcmpW x3 x2))])) _
      refine XS.ifNo X0.here hx rfl (hb hby dC_7) rfl ((if0 _ _).trans (tlt ((lw_lt x3 x2).mpr hc7)).2.1) ?_
      show Steps p.tables e below (s₁.setTop (mkF m 10 #[.val (.ref b1), .val (.int (2 : Int32)), .val (.int (3 : Int32)), .unset, .unset] [])) _
      refine XS.aloadN X0.here hx rfl (hb hby dC_10) rfl rfl ?_
      show Steps p.tables e below (s₁.setTop (mkF m 11 #[.val (.ref b1), .val (.int (2 : Int32)), .val (.int (3 : Int32)), .unset, .unset] [(.ref b1)])) _
      refine XS.iloadN X0.here hx rfl (hb hby dC_11) rfl ?_
      show Steps p.tables e below (s₁.setTop (mkF m 12 #[.val (.ref b1), .val (.int (2 : Int32)), .val (.int (3 : Int32)), .unset, .unset] [(.int (2 : Int32)), (.ref b1)])) _
      refine X0.laload hx (j := (2 : Int32)) (v := (.long x2)) (by rw [e0]; exact Ar1.1) (State.isArrayOf_alike hZ.alike Ar1.2.1) Ar1.2.2 (own_hin S1 hi4) ha4 (g := (mkF m 12 #[.val (.ref b1), .val (.int (2 : Int32)), .val (.int (3 : Int32)), .unset, .unset] [(.int (2 : Int32)), (.ref b1)])) rfl rfl (hb hby dC_12) _ ?_
      show Steps p.tables e below (s₁.setTop (mkF m 13 #[.val (.ref b1), .val (.int (2 : Int32)), .val (.int (3 : Int32)), .unset, .unset] [(.long x2)])) _
      refine XS.lstoreN X0.here hx rfl (hb hby dC_13) rfl (l' := #[.val (.ref b1), .val (.int (2 : Int32)), .val (.int (3 : Int32)), .val (.long x2), .second]) rfl ?_
      show Steps p.tables e below (s₁.setTop (mkF m 14 #[.val (.ref b1), .val (.int (2 : Int32)), .val (.int (3 : Int32)), .val (.long x2), .second] [])) _
      refine XS.aloadN X0.here hx rfl (hb hby dC_14) rfl rfl ?_
      show Steps p.tables e below (s₁.setTop (mkF m 15 #[.val (.ref b1), .val (.int (2 : Int32)), .val (.int (3 : Int32)), .val (.long x2), .second] [(.ref b1)])) _
      refine XS.iloadN X0.here hx rfl (hb hby dC_15) rfl ?_
      show Steps p.tables e below (s₁.setTop (mkF m 16 #[.val (.ref b1), .val (.int (2 : Int32)), .val (.int (3 : Int32)), .val (.long x2), .second] [(.int (2 : Int32)), (.ref b1)])) _
      refine XS.aloadN X0.here hx rfl (hb hby dC_16) rfl rfl ?_
      show Steps p.tables e below (s₁.setTop (mkF m 17 #[.val (.ref b1), .val (.int (2 : Int32)), .val (.int (3 : Int32)), .val (.long x2), .second] [(.ref b1), (.int (2 : Int32)), (.ref b1)])) _
      refine XS.iloadN X0.here hx rfl (hb hby dC_17) rfl ?_
      show Steps p.tables e below (s₁.setTop (mkF m 18 #[.val (.ref b1), .val (.int (2 : Int32)), .val (.int (3 : Int32)), .val (.long x2), .second] [(.int (3 : Int32)), (.ref b1), (.int (2 : Int32)), (.ref b1)])) _
      refine X0.laload hx (j := (3 : Int32)) (v := (.long x3)) (by rw [e0]; exact Ar1.1) (State.isArrayOf_alike hZ.alike Ar1.2.1) Ar1.2.2 (own_hin S1 hi5) ha5 (g := (mkF m 18 #[.val (.ref b1), .val (.int (2 : Int32)), .val (.int (3 : Int32)), .val (.long x2), .second] [(.int (3 : Int32)), (.ref b1), (.int (2 : Int32)), (.ref b1)])) rfl rfl (hb hby dC_18) _ ?_
      show Steps p.tables e below (s₁.setTop (mkF m 19 #[.val (.ref b1), .val (.int (2 : Int32)), .val (.int (3 : Int32)), .val (.long x2), .second] [(.long x3), (.int (2 : Int32)), (.ref b1)])) _
      refine st6 _ ?_
      show Steps p.tables e below (T6.setTop (mkF m 20 #[.val (.ref b1), .val (.int (2 : Int32)), .val (.int (3 : Int32)), .val (.long x2), .second] [])) _
      refine XS.aloadN X6.here hx rfl (hb hby dC_20) rfl rfl ?_
      show Steps p.tables e below (T6.setTop (mkF m 21 #[.val (.ref b1), .val (.int (2 : Int32)), .val (.int (3 : Int32)), .val (.long x2), .second] [(.ref b1)])) _
      refine XS.iloadN X6.here hx rfl (hb hby dC_21) rfl ?_
      show Steps p.tables e below (T6.setTop (mkF m 22 #[.val (.ref b1), .val (.int (2 : Int32)), .val (.int (3 : Int32)), .val (.long x2), .second] [(.int (3 : Int32)), (.ref b1)])) _
      refine XS.lloadN X6.here hx rfl (hb hby dC_22) rfl ?_
      show Steps p.tables e below (T6.setTop (mkF m 23 #[.val (.ref b1), .val (.int (2 : Int32)), .val (.int (3 : Int32)), .val (.long x2), .second] [(.long x2), (.int (3 : Int32)), (.ref b1)])) _
      refine st9 _ ?_
      show Steps p.tables e below (T9.setTop (mkF m 24 #[.val (.ref b1), .val (.int (2 : Int32)), .val (.int (3 : Int32)), .val (.long x2), .second] [])) _
      exact X9.returnOut hx Bd.returns (hb hby dC_24) hr
    · exact ⟨rfl, N9, K9, _, _, _, _, _, _, by rw [own_cs_23, if_pos hc7], V10⟩
  · refine own_end X0 Bd.notSynchronized (v := none) (fun _ => rfl) (fun fs hr => ?_) e0 ?_ (by decide) (by decide)
    · show Steps p.tables e below (s₁.setTop (mkF m 7 #[.val (.ref b1), .val (.int (2 : Int32)), .val (.int (3 : Int32)), .unset, .unset] [(.int (lcmpW x3 x2))])) _
      refine XS.ifYes X0.here hx rfl (pc0 := 7) (pc' := 24) rfl (hb hby dC_7) rfl ((if0 _ _).trans (flt (fun q => hc7 ((lw_lt x3 x2).mp q))).2.1) (by decide) (by decide) ?_
      show Steps p.tables e below (s₁.setTop (mkF m 24 #[.val (.ref b1), .val (.int (2 : Int32)), .val (.int (3 : Int32)), .unset, .unset] [])) _
      exact X0.returnOut hx Bd.returns (hb hby dC_24) hr
    · exact ⟨rfl, N0, K0, _, _, _, _, _, _, by rw [own_cs_23, if_neg hc7], V_b1⟩
theorem di_0 : decode prog_81_method_1_code 0 = .ok (.aload_n 0, 1) := by decide +kernel
theorem di_1 : decode prog_81_method_1_code 1 = .ok (.invokespecial 1, 3) := by decide +kernel
theorem di_4 : decode prog_81_method_1_code 4 = .ok (.aload_n 0, 1) := by decide +kernel
theorem di_5 : decode prog_81_method_1_code 5 = .ok (.bipush 16, 2) := by decide +kernel
theorem di_7 : decode prog_81_method_1_code 7 = .ok (.newarray .long, 2) := by decide +kernel
theorem di_9 : decode prog_81_method_1_code 9 = .ok (.putfield 7, 3) := by decide +kernel
theorem di_12 : decode prog_81_method_1_code 12 = .ok (.return_, 1) := by decide +kernel
theorem pn_i : plainName "com/example/kdata/kdata/LongHeap" = true := by first | (simp [plainName, overriddenIn]; done) | decide +kernel
theorem ef_i (m : MethodId) (x0 : Addr) : entryFrame m #[(.ref x0)] 1 = mkF m 0 #[.val (.ref x0)] [] := by first | (simp [entryFrame, mkF, argsToLocals, Value.category]; done) | rfl
def Qi (Z : State) (b1 : Addr) (h0 : Heap) (n0 : Nat) (v : Option Value) (h : Heap) (L : List Loc) : Prop := v = none ∧ Fr n0 L ∧ Keep h0 h [b1] ∧ ∃ (q : Addr) (k : ClassId), h0.size ≤ q ∧ Exa Z h b1 "com/example/kdata/kdata/LongHeap" ∧ Fld Z h b1 "com/example/kdata/kdata/LongHeap" "data" "[J" (.ref q) ∧ Fld Z h b1 "com/example/kdata/kdata/LongHeap" "size" "I" (.int (0 : Int32)) ∧ Arv Z h q k .long (16 : Int32) [(.long (0 : Int64)), (.long (0 : Int64)), (.long (0 : Int64)), (.long (0 : Int64)), (.long (0 : Int64)), (.long (0 : Int64)), (.long (0 : Int64)), (.long (0 : Int64)), (.long (0 : Int64)), (.long (0 : Int64)), (.long (0 : Int64)), (.long (0 : Int64)), (.long (0 : Int64)), (.long (0 : Int64)), (.long (0 : Int64)), (.long (0 : Int64))] (.long (0 : Int64))
set_option maxRecDepth 65536 in
set_option maxHeartbeats 40000000 in
theorem rmi (l : Launch) (Z : State) (a0 : Array Value) (hw : ∀ d ∈ tables_1, d.before a0 Z = true) (ws : List Jvm.Cond)  (b1 : Addr) (h0 : Heap) (n0 : Nat) (Z0 : n0 ≤ h0.size) (F_d : Fld Z h0 b1 "com/example/kdata/kdata/LongHeap" "data" "[J" .null) (F_s : Fld Z h0 b1 "com/example/kdata/kdata/LongHeap" "size" "I" (.int (0 : Int32))) (E_b1 : Exa Z h0 b1 "com/example/kdata/kdata/LongHeap") (lo_b1 : n0 ≤ b1) :
    MetFree l (⟨"com/example/kdata/kdata/LongHeap", "<init>", "()V"⟩ : MethodName) (head1 (Jvm.Cond.code (⟨"com/example/kdata/kdata/LongHeap", "<init>", "()V"⟩ : MethodName) prog_81_method_1_code 1 none :: ws) ({ frames := 1, cells := 1, slots := 16, locals := 12 } : Room)) (fun a U => a = #[(.ref b1)] ∧ Z.Warmed39 U.vm ∧ U.heap = h0) (fun _ _ _ _ _ => True) (fun _ U o U' => ∃ v L, o = .returned v ∧ Qi Z b1 h0 n0 v U'.heap L ∧ FrameEnd U o U' L ({ frames := 1, cells := 1, slots := 16, locals := 12 } : Room).cells ({ frames := 1, cells := 1, slots := 16, locals := 12 } : Room).slots) := by
  refine MetFree.of_bodySF (plainFor_of_name pn_i) hisR ?_
  intro p e s m args below meth c s₁ Bd hml0 hP hK
  obtain ⟨rfl, hZ, hh⟩ := hP
  have hx := Bd.exec
  have hby := Bd.bytes
  have hml : c.maxLocals = 1 := hml0
  have hown : s.vm.findClass "com/example/kdata/kdata/LongHeap" = some m.cls := findClass_of_methodNamed Bd.named
  have hnm := (name_of_methodNamed Bd.named Bd.method).1
  have X0 : Stand p l e ({ frames := 1, cells := 1, slots := 16, locals := 12 } : Room) s m #[(.ref b1)] below meth c s₁ [] 0 0 := Stand.of_body Bd
  have e0 : s₁.heap = h0 := by rw [← hh, Bd.state]; rfl
  have N0 := Fr.nil n0
  show own_Go p e below s (Qi Z b1 h0 n0) ({ frames := 1, cells := 1, slots := 16, locals := 12 } : Room).cells ({ frames := 1, cells := 1, slots := 16, locals := 12 } : Room).slots (s₁.setTop (entryFrame m #[(.ref b1)] 1))
  refine own_go (b := s₁.setTop (mkF m 0 #[.val (.ref b1)] [])) (fun t k => castTop (ef_i m b1) k) ?_
  have K0 := Keep.refl h0 [b1]
  obtain ⟨T1, X1, e1, st1⟩ := initO X0 hx hZ hown (hw _ (List.mem_of_getElem? (i := 11) rfl)) (hw _ (List.mem_of_getElem? (i := 12) rfl)) (hw _ (List.mem_of_getElem? (i := 13) rfl)) e0 (g := (mkF m 1 #[.val (.ref b1)] [(.ref b1)])) rfl (by rw [hml]; rfl) rfl (hb hby di_1) (by decide) (W := 0) (by show 2 * 0 + _ ≤ _; exact Nat.le_of_eq rfl) (by decide)
  obtain ⟨T2, h2, k2, X2, e2, E2, A2, B2, st2⟩ := newPE X1 hx hZ (hw _ (List.mem_of_getElem? (i := 0) rfl)) e1 (g := (mkF m 7 #[.val (.ref b1)] [(.int (16 : Int32)), (.ref b1)])) rfl (hb hby di_7) rfl (by decide) (cap := 16) (by decide) (by decide) (by decide) (by decide) (ad := "[J") (by first | rfl | decide +kernel)
  obtain ⟨a2, ga2⟩ : ∃ z, z = h0.size := ⟨_, rfl⟩
  rw [← ga2] at A2 B2 st2
  have lt2_b1 : b1 < a2 := by rw [ga2]; exact E_b1.lt
  have ge2 : h0.size ≤ a2 := Nat.le_trans K0.1 (Nat.le_of_eq ga2.symm)
  have K2 := K0.ext E2
  have F3 := F_d.ext E2
  have F4 := F_s.ext E2
  have E5 := E_b1.ext E2
  have lo2 : n0 ≤ a2 := Nat.le_trans Z0 (Nat.le_of_eq ga2.symm)
  have Z2 : n0 ≤ h2.size := Nat.le_trans Z0 E2.1
  have V6 : Arv Z h2 a2 k2 .long (16 : Int32) [(.long (0 : Int64)), (.long (0 : Int64)), (.long (0 : Int64)), (.long (0 : Int64)), (.long (0 : Int64)), (.long (0 : Int64)), (.long (0 : Int64)), (.long (0 : Int64)), (.long (0 : Int64)), (.long (0 : Int64)), (.long (0 : Int64)), (.long (0 : Int64)), (.long (0 : Int64)), (.long (0 : Int64)), (.long (0 : Int64)), (.long (0 : Int64))] (.long (0 : Int64)) := (Arv.new A2 (by decide)).pad (pad_rep [] (.long (0 : Int64)) 16)
  obtain ⟨T7, h7, X7, e7, W7, st7⟩ := putF X2 hx hZ hown (host := "") (Or.inl (hw _ (List.mem_of_getElem? (i := 14) rfl))) Via.refl e2 F3 E5 (Or.inl (hw _ (List.mem_of_getElem? (i := 15) rfl))) (hw _ (List.mem_of_getElem? (i := 6) rfl)) (ty := (.array .long)) (by decide) rfl rfl (g := (mkF m 9 #[.val (.ref b1)] [(.ref a2), (.ref b1)])) rfl rfl (hb hby di_9)
  have N7 := Fr.snoc X7 N0 lo_b1
  obtain ⟨lc7, X7, N7⟩ := own_lc X7 N7
  have K7 := K2.wr W7 (Or.inl (List.mem_of_getElem? (i := 0) rfl))
  have F8 : Fld Z h7 b1 "com/example/kdata/kdata/LongHeap" "data" "[J" (.ref a2) := F3.same W7
  have F9 := F4.other W7 (Or.inr (slot_ne (Or.inl (hw _ (List.mem_of_getElem? (i := 22) rfl))) (Or.inl (hw _ (List.mem_of_getElem? (i := 15) rfl))) (by decide) (t := .int) (t' := (.array .long)) (by decide) (by decide)))
  have E10 := E5.wr W7
  have E11 := B2.wr W7
  have V12 := V6.other W7 (Nat.ne_of_gt lt2_b1)
  have Z7 : n0 ≤ h7.size := by rw [W7.size]; exact Z2
  refine own_end X7 Bd.notSynchronized (v := none) (fun _ => rfl) (fun fs hr => ?_) e7 ?_ (by decide) (by decide)
  · show Steps p.tables e below (s₁.setTop (mkF m 0 #[.val (.ref b1)] [])) _
    refine XS.aloadN X0.here hx rfl (hb hby di_0) rfl rfl ?_
    show Steps p.tables e below (s₁.setTop (mkF m 1 #[.val (.ref b1)] [(.ref b1)])) _
    refine st1 _ ?_
    show Steps p.tables e below (T1.setTop (mkF m 4 #[.val (.ref b1)] [])) _
    refine XS.aloadN X1.here hx rfl (hb hby di_4) rfl rfl ?_
    show Steps p.tables e below (T1.setTop (mkF m 5 #[.val (.ref b1)] [(.ref b1)])) _
    refine XS.bipush X1.here hx rfl (hb hby di_5) ?_
    show Steps p.tables e below (T1.setTop (mkF m 7 #[.val (.ref b1)] [(.int (16 : Int32)), (.ref b1)])) _
    refine st2 _ ?_
    show Steps p.tables e below (T2.setTop (mkF m 9 #[.val (.ref b1)] [(.ref a2), (.ref b1)])) _
    refine st7 _ ?_
    show Steps p.tables e below (T7.setTop (mkF m 12 #[.val (.ref b1)] [])) _
    exact X7.returnOut hx Bd.returns (hb hby di_12) hr
  · exact ⟨rfl, N7, K7, a2, _, ge2, E10, F8, F9, V12⟩
def own_add_0 (x0 : Int64) (x1 : Int64) (x2 : Int64) (x3 : Int64) (x4 : Int64) (x5 : Int64) (y1 : Int64) : List Int64 :=
  [y1, x1, x2, x3, x4, x5]
theorem dA_0 : decode prog_81_method_3_code 0 = .ok (.aload_n 0, 1) := by decide +kernel
theorem dA_1 : decode prog_81_method_3_code 1 = .ok (.getfield 13, 3) := by decide +kernel
theorem dA_4 : decode prog_81_method_3_code 4 = .ok (.aload_n 0, 1) := by decide +kernel
theorem dA_5 : decode prog_81_method_3_code 5 = .ok (.getfield 7, 3) := by decide +kernel
theorem dA_8 : decode prog_81_method_3_code 8 = .ok (.arraylength, 1) := by decide +kernel
theorem dA_9 : decode prog_81_method_3_code 9 = .ok (.if_icmp .ne 20, 3) := by decide +kernel
theorem dA_12 : decode prog_81_method_3_code 12 = .ok (.aload_n 0, 1) := by decide +kernel
theorem dA_13 : decode prog_81_method_3_code 13 = .ok (.aload_n 0, 1) := by decide +kernel
theorem dA_14 : decode prog_81_method_3_code 14 = .ok (.getfield 7, 3) := by decide +kernel
theorem dA_17 : decode prog_81_method_3_code 17 = .ok (.iconst 2, 1) := by decide +kernel
theorem dA_18 : decode prog_81_method_3_code 18 = .ok (.aload_n 0, 1) := by decide +kernel
theorem dA_19 : decode prog_81_method_3_code 19 = .ok (.getfield 13, 3) := by decide +kernel
theorem dA_22 : decode prog_81_method_3_code 22 = .ok (.imul, 1) := by decide +kernel
theorem dA_23 : decode prog_81_method_3_code 23 = .ok (.invokestatic 17, 3) := by decide +kernel
theorem dA_26 : decode prog_81_method_3_code 26 = .ok (.putfield 7, 3) := by decide +kernel
theorem dA_29 : decode prog_81_method_3_code 29 = .ok (.aload_n 0, 1) := by decide +kernel
theorem dA_30 : decode prog_81_method_3_code 30 = .ok (.dup, 1) := by decide +kernel
theorem dA_31 : decode prog_81_method_3_code 31 = .ok (.getfield 13, 3) := by decide +kernel
theorem dA_34 : decode prog_81_method_3_code 34 = .ok (.dup_x1, 1) := by decide +kernel
theorem dA_35 : decode prog_81_method_3_code 35 = .ok (.iconst 1, 1) := by decide +kernel
theorem dA_36 : decode prog_81_method_3_code 36 = .ok (.iadd, 1) := by decide +kernel
theorem dA_37 : decode prog_81_method_3_code 37 = .ok (.putfield 13, 3) := by decide +kernel
theorem dA_40 : decode prog_81_method_3_code 40 = .ok (.istore_n 3, 1) := by decide +kernel
theorem dA_41 : decode prog_81_method_3_code 41 = .ok (.iload_n 3, 1) := by decide +kernel
theorem dA_42 : decode prog_81_method_3_code 42 = .ok (.ifCond .le 43, 3) := by decide +kernel
theorem dA_45 : decode prog_81_method_3_code 45 = .ok (.aload_n 0, 1) := by decide +kernel
theorem dA_46 : decode prog_81_method_3_code 46 = .ok (.getfield 7, 3) := by decide +kernel
theorem dA_49 : decode prog_81_method_3_code 49 = .ok (.iload_n 3, 1) := by decide +kernel
theorem dA_50 : decode prog_81_method_3_code 50 = .ok (.iconst 1, 1) := by decide +kernel
theorem dA_51 : decode prog_81_method_3_code 51 = .ok (.isub, 1) := by decide +kernel
theorem dA_52 : decode prog_81_method_3_code 52 = .ok (.iconst 1, 1) := by decide +kernel
theorem dA_53 : decode prog_81_method_3_code 53 = .ok (.iushr, 1) := by decide +kernel
theorem dA_54 : decode prog_81_method_3_code 54 = .ok (.laload, 1) := by decide +kernel
theorem dA_55 : decode prog_81_method_3_code 55 = .ok (.lload_n 1, 1) := by decide +kernel
theorem dA_56 : decode prog_81_method_3_code 56 = .ok (.lcmp, 1) := by decide +kernel
theorem dA_57 : decode prog_81_method_3_code 57 = .ok (.ifCond .le 28, 3) := by decide +kernel
theorem dA_60 : decode prog_81_method_3_code 60 = .ok (.aload_n 0, 1) := by decide +kernel
theorem dA_61 : decode prog_81_method_3_code 61 = .ok (.getfield 7, 3) := by decide +kernel
theorem dA_64 : decode prog_81_method_3_code 64 = .ok (.iload_n 3, 1) := by decide +kernel
theorem dA_65 : decode prog_81_method_3_code 65 = .ok (.aload_n 0, 1) := by decide +kernel
theorem dA_66 : decode prog_81_method_3_code 66 = .ok (.getfield 7, 3) := by decide +kernel
theorem dA_69 : decode prog_81_method_3_code 69 = .ok (.iload_n 3, 1) := by decide +kernel
theorem dA_70 : decode prog_81_method_3_code 70 = .ok (.iconst 1, 1) := by decide +kernel
theorem dA_71 : decode prog_81_method_3_code 71 = .ok (.isub, 1) := by decide +kernel
theorem dA_72 : decode prog_81_method_3_code 72 = .ok (.iconst 1, 1) := by decide +kernel
theorem dA_73 : decode prog_81_method_3_code 73 = .ok (.iushr, 1) := by decide +kernel
theorem dA_74 : decode prog_81_method_3_code 74 = .ok (.laload, 1) := by decide +kernel
theorem dA_75 : decode prog_81_method_3_code 75 = .ok (.lastore, 1) := by decide +kernel
theorem dA_76 : decode prog_81_method_3_code 76 = .ok (.iload_n 3, 1) := by decide +kernel
theorem dA_77 : decode prog_81_method_3_code 77 = .ok (.iconst 1, 1) := by decide +kernel
theorem dA_78 : decode prog_81_method_3_code 78 = .ok (.isub, 1) := by decide +kernel
theorem dA_79 : decode prog_81_method_3_code 79 = .ok (.iconst 1, 1) := by decide +kernel
theorem dA_80 : decode prog_81_method_3_code 80 = .ok (.iushr, 1) := by decide +kernel
theorem dA_81 : decode prog_81_method_3_code 81 = .ok (.istore_n 3, 1) := by decide +kernel
theorem dA_82 : decode prog_81_method_3_code 82 = .ok (.goto (-41), 3) := by decide +kernel
theorem dA_85 : decode prog_81_method_3_code 85 = .ok (.aload_n 0, 1) := by decide +kernel
theorem dA_86 : decode prog_81_method_3_code 86 = .ok (.getfield 7, 3) := by decide +kernel
theorem dA_89 : decode prog_81_method_3_code 89 = .ok (.iload_n 3, 1) := by decide +kernel
theorem dA_90 : decode prog_81_method_3_code 90 = .ok (.lload_n 1, 1) := by decide +kernel
theorem dA_91 : decode prog_81_method_3_code 91 = .ok (.lastore, 1) := by decide +kernel
theorem dA_92 : decode prog_81_method_3_code 92 = .ok (.return_, 1) := by decide +kernel
theorem pn_a0 : plainName "com/example/kdata/kdata/LongHeap" = true := by first | (simp [plainName, overriddenIn]; done) | decide +kernel
theorem ef_a0 (m : MethodId) (x0 : Addr) (x1 : Int64) : entryFrame m #[(.ref x0), (.long x1)] 4 = mkF m 0 #[.val (.ref x0), .val (.long x1), .second, .unset] [] := by first | (simp [entryFrame, mkF, argsToLocals, Value.category]; done) | rfl
def Qa0 (Z : State) (b1 q1 : Addr) (k1 : ClassId) (x0 : Int64) (x1 : Int64) (x2 : Int64) (x3 : Int64) (x4 : Int64) (x5 : Int64) (y1 : Int64) (h0 : Heap) (n0 : Nat) (v : Option Value) (h : Heap) (L : List Loc) : Prop := v = none ∧ Fr n0 L ∧ Keep h0 h [b1, q1] ∧ Exa Z h b1 "com/example/kdata/kdata/LongHeap" ∧ Fld Z h b1 "com/example/kdata/kdata/LongHeap" "data" "[J" (.ref q1) ∧ Fld Z h b1 "com/example/kdata/kdata/LongHeap" "size" "I" (.int (1 : Int32)) ∧ ∃ z0 z1 z2 z3 z4 z5 : Int64, [z0, z1, z2, z3, z4, z5] = own_add_0 x0 x1 x2 x3 x4 x5 y1 ∧ Arv Z h q1 k1 .long (16 : Int32) [(.long z0), (.long z1), (.long z2), (.long z3), (.long z4), (.long z5), (.long (0 : Int64)), (.long (0 : Int64)), (.long (0 : Int64)), (.long (0 : Int64)), (.long (0 : Int64)), (.long (0 : Int64)), (.long (0 : Int64)), (.long (0 : Int64)), (.long (0 : Int64)), (.long (0 : Int64))] (.long (0 : Int64))
set_option maxRecDepth 65536 in
set_option maxHeartbeats 40000000 in
theorem rma0 (l : Launch) (Z : State) (a0 : Array Value) (hw : ∀ d ∈ tables_1, d.before a0 Z = true) (ws : List Jvm.Cond)  (b1 q1 : Addr) (k1 : ClassId) (x0 : Int64) (x1 : Int64) (x2 : Int64) (x3 : Int64) (x4 : Int64) (x5 : Int64) (y1 : Int64) (h0 : Heap) (n0 : Nat) (Z0 : n0 ≤ h0.size) (F_d : Fld Z h0 b1 "com/example/kdata/kdata/LongHeap" "data" "[J" (.ref q1)) (F_s : Fld Z h0 b1 "com/example/kdata/kdata/LongHeap" "size" "I" (.int (0 : Int32))) (E_b1 : Exa Z h0 b1 "com/example/kdata/kdata/LongHeap") (lo_b1 : n0 ≤ b1) (lo_q1 : n0 ≤ q1) (lt_q : b1 < q1) (V_q1 : Arv Z h0 q1 k1 .long (16 : Int32) [(.long x0), (.long x1), (.long x2), (.long x3), (.long x4), (.long x5), (.long (0 : Int64)), (.long (0 : Int64)), (.long (0 : Int64)), (.long (0 : Int64)), (.long (0 : Int64)), (.long (0 : Int64)), (.long (0 : Int64)), (.long (0 : Int64)), (.long (0 : Int64)), (.long (0 : Int64))] (.long (0 : Int64))) :
    MetFree l (⟨"com/example/kdata/kdata/LongHeap", "add", "(J)V"⟩ : MethodName) (head1 (Jvm.Cond.code (⟨"com/example/kdata/kdata/LongHeap", "add", "(J)V"⟩ : MethodName) prog_81_method_3_code 4 none :: ws) ({ frames := 0, cells := 0, slots := 0, locals := 0 } : Room)) (fun a U => a = #[(.ref b1), (.long y1)] ∧ Z.Warmed39 U.vm ∧ U.heap = h0) (fun _ _ _ _ _ => True) (fun _ U o U' => ∃ v L, o = .returned v ∧ Qa0 Z b1 q1 k1 x0 x1 x2 x3 x4 x5 y1 h0 n0 v U'.heap L ∧ FrameEnd U o U' L ({ frames := 0, cells := 0, slots := 0, locals := 0 } : Room).cells ({ frames := 0, cells := 0, slots := 0, locals := 0 } : Room).slots) := by
  refine MetFree.of_bodySF (plainFor_of_name pn_a0) hisR ?_
  intro p e s m args below meth c s₁ Bd hml0 hP hK
  obtain ⟨rfl, hZ, hh⟩ := hP
  have hx := Bd.exec
  have hby := Bd.bytes
  have hml : c.maxLocals = 4 := hml0
  have hown : s.vm.findClass "com/example/kdata/kdata/LongHeap" = some m.cls := findClass_of_methodNamed Bd.named
  have hnm := (name_of_methodNamed Bd.named Bd.method).1
  have X0 : Stand p l e ({ frames := 0, cells := 0, slots := 0, locals := 0 } : Room) s m #[(.ref b1), (.long y1)] below meth c s₁ [] 0 0 := Stand.of_body Bd
  have e0 : s₁.heap = h0 := by rw [← hh, Bd.state]; rfl
  have N0 := Fr.nil n0
  show own_Go p e below s (Qa0 Z b1 q1 k1 x0 x1 x2 x3 x4 x5 y1 h0 n0) ({ frames := 0, cells := 0, slots := 0, locals := 0 } : Room).cells ({ frames := 0, cells := 0, slots := 0, locals := 0 } : Room).slots (s₁.setTop (entryFrame m #[(.ref b1), (.long y1)] 4))
  refine own_go (b := s₁.setTop (mkF m 0 #[.val (.ref b1), .val (.long y1), .second, .unset] [])) (fun t k => castTop (ef_a0 m b1 y1) k) ?_
  have K0 := Keep.refl h0 [b1, q1]
  obtain ⟨T1, X1, e1, st1⟩ := getF X0 hx hZ hown (host := "") (Or.inl (hw _ (List.mem_of_getElem? (i := 21) rfl))) Via.refl e0 F_s (g := (mkF m 1 #[.val (.ref b1), .val (.long y1), .second, .unset] [(.ref b1)])) rfl rfl (hb hby dA_1)
  obtain ⟨T2, X2, e2, st2⟩ := getF X1 hx hZ hown (host := "") (Or.inl (hw _ (List.mem_of_getElem? (i := 14) rfl))) Via.refl e1 F_d (g := (mkF m 5 #[.val (.ref b1), .val (.long y1), .second, .unset] [(.ref b1), (.int (0 : Int32))])) rfl rfl (hb hby dA_5)
  obtain ⟨cl3, Ar3, q3, S3, M3, H3, U3⟩ := id V_q1
  have hc9_4 : ¬ ((0 : Int32) = (16 : Int32)) := (by decide)
  obtain ⟨T5, X5, e5, st5⟩ := getF X2 hx hZ hown (host := "") (Or.inl (hw _ (List.mem_of_getElem? (i := 21) rfl))) Via.refl e2 F_s (g := (mkF m 31 #[.val (.ref b1), .val (.long y1), .second, .unset] [(.ref b1), (.ref b1)])) rfl rfl (hb hby dA_31)
  obtain ⟨T6, h6, X6, e6, W6, st6⟩ := putF X5 hx hZ hown (host := "") (Or.inl (hw _ (List.mem_of_getElem? (i := 21) rfl))) Via.refl e5 F_s E_b1 (Or.inl (hw _ (List.mem_of_getElem? (i := 22) rfl))) (hw _ (List.mem_of_getElem? (i := 6) rfl)) (ty := .int) (by decide) rfl rfl (g := (mkF m 37 #[.val (.ref b1), .val (.long y1), .second, .unset] [(.int (1 : Int32)), (.ref b1), (.int (0 : Int32))])) rfl rfl (hb hby dA_37)
  have N6 := Fr.snoc X6 N0 lo_b1
  obtain ⟨lc6, X6, N6⟩ := own_lc X6 N6
  have K6 := K0.wr W6 (Or.inl (List.mem_of_getElem? (i := 0) rfl))
  have F7 : Fld Z h6 b1 "com/example/kdata/kdata/LongHeap" "size" "I" (.int (1 : Int32)) := F_s.same W6
  have F8 := F_d.other W6 (Or.inr (slot_ne (Or.inl (hw _ (List.mem_of_getElem? (i := 15) rfl))) (Or.inl (hw _ (List.mem_of_getElem? (i := 22) rfl))) (by decide) (t := (.array .long)) (t' := .int) (by decide) (by decide)))
  have E9 := E_b1.wr W6
  have V10 := V_q1.other W6 (Nat.ne_of_gt lt_q)
  have Z6 : n0 ≤ h6.size := by rw [W6.size]; exact Z0
  have hc42_11 : ¬ ((0 : Int32) < (0 : Int32)) := (by decide)
  obtain ⟨T12, X12, e12, st12⟩ := getF X6 hx hZ hown (host := "") (Or.inl (hw _ (List.mem_of_getElem? (i := 14) rfl))) Via.refl e6 F8 (g := (mkF m 86 #[.val (.ref b1), .val (.long y1), .second, .val (.int (0 : Int32))] [(.ref b1)])) rfl rfl (hb hby dA_86)
  obtain ⟨cl13, Ar13, q13, S13, M13, H13, U13⟩ := id V10
  obtain ⟨T14, h14, X14, e14, W14, st14⟩ := stJ X12 hx hZ e12 Ar13 (j := (0 : Int32)) (by rw [S13]; decide) (g := (mkF m 91 #[.val (.ref b1), .val (.long y1), .second, .val (.int (0 : Int32))] [(.long y1), (.int (0 : Int32)), (.ref q1)])) rfl rfl (hb hby dA_91)
  have N14 := Fr.snoc X14 N6 lo_q1
  obtain ⟨lc14, X14, N14⟩ := own_lc X14 N14
  have V15 : Arv Z h14 q1 k1 .long (16 : Int32) [(.long y1), (.long x1), (.long x2), (.long x3), (.long x4), (.long x5), (.long (0 : Int64)), (.long (0 : Int64)), (.long (0 : Int64)), (.long (0 : Int64)), (.long (0 : Int64)), (.long (0 : Int64)), (.long (0 : Int64)), (.long (0 : Int64)), (.long (0 : Int64)), (.long (0 : Int64))] (.long (0 : Int64)) := Arv.set Ar13 q13 S13 M13 H13 U13 rfl W14 0 rfl (by show 0 < 16; decide)
  have K14 := K6.wr W14 (Or.inl (List.mem_of_getElem? (i := 1) rfl))
  have F16 := F8.other W14 (Or.inl (Nat.ne_of_lt lt_q))
  have F17 := F7.other W14 (Or.inl (Nat.ne_of_lt lt_q))
  have E18 := E9.wr W14
  have Z14 : n0 ≤ h14.size := by rw [W14.size]; exact Z6
  refine own_end X14 Bd.notSynchronized (v := none) (fun _ => rfl) (fun fs hr => ?_) e14 ?_ (by decide) (by decide)
  · show Steps p.tables e below (s₁.setTop (mkF m 0 #[.val (.ref b1), .val (.long y1), .second, .unset] [])) _
    refine XS.aloadN X0.here hx rfl (hb hby dA_0) rfl rfl ?_
    show Steps p.tables e below (s₁.setTop (mkF m 1 #[.val (.ref b1), .val (.long y1), .second, .unset] [(.ref b1)])) _
    refine st1 _ ?_
    show Steps p.tables e below (T1.setTop (mkF m 4 #[.val (.ref b1), .val (.long y1), .second, .unset] [(.int (0 : Int32))])) _
    refine XS.aloadN X1.here hx rfl (hb hby dA_4) rfl rfl ?_
    show Steps p.tables e below (T1.setTop (mkF m 5 #[.val (.ref b1), .val (.long y1), .second, .unset] [(.ref b1), (.int (0 : Int32))])) _
    refine st2 _ ?_
    show Steps p.tables e below (T2.setTop (mkF m 8 #[.val (.ref b1), .val (.long y1), .second, .unset] [(.ref q1), (.int (0 : Int32))])) _
    refine X2.arraylength hx (cell := cl3) (by rw [e2]; exact Ar3.1) (State.isArrayOf_alike hZ.alike Ar3.2.1) (g := (mkF m 8 #[.val (.ref b1), .val (.long y1), .second, .unset] [(.ref q1), (.int (0 : Int32))])) rfl (rest := [(.int (0 : Int32))]) rfl (hb hby dA_8) _ ?_
    rw [len_of S3 M3]
    show Steps p.tables e below (T2.setTop (mkF m 9 #[.val (.ref b1), .val (.long y1), .second, .unset] [(.int (16 : Int32)), (.int (0 : Int32))])) _
    refine XS.icmpYes X2.here hx rfl (pc0 := 9) (pc' := 29) rfl (hb hby dA_9) rfl (feq hc9_4).2 (by decide) (by decide) ?_
    show Steps p.tables e below (T2.setTop (mkF m 29 #[.val (.ref b1), .val (.long y1), .second, .unset] [])) _
    refine XS.aloadN X2.here hx rfl (hb hby dA_29) rfl rfl ?_
    show Steps p.tables e below (T2.setTop (mkF m 30 #[.val (.ref b1), .val (.long y1), .second, .unset] [(.ref b1)])) _
    refine XS.dup X2.here hx rfl (hb hby dA_30) rfl rfl ?_
    show Steps p.tables e below (T2.setTop (mkF m 31 #[.val (.ref b1), .val (.long y1), .second, .unset] [(.ref b1), (.ref b1)])) _
    refine st5 _ ?_
    show Steps p.tables e below (T5.setTop (mkF m 34 #[.val (.ref b1), .val (.long y1), .second, .unset] [(.int (0 : Int32)), (.ref b1)])) _
    refine XS.dupX1 X5.here hx rfl (hb hby dA_34) rfl rfl rfl ?_
    show Steps p.tables e below (T5.setTop (mkF m 35 #[.val (.ref b1), .val (.long y1), .second, .unset] [(.int (0 : Int32)), (.ref b1), (.int (0 : Int32))])) _
    refine XS.iconst X5.here hx rfl (hb hby dA_35) ?_
    show Steps p.tables e below (T5.setTop (mkF m 36 #[.val (.ref b1), .val (.long y1), .second, .unset] [(.int (1 : Int32)), (.int (0 : Int32)), (.ref b1), (.int (0 : Int32))])) _
    refine XS.iadd X5.here hx rfl (hb hby dA_36) rfl ?_
    show Steps p.tables e below (T5.setTop (mkF m 37 #[.val (.ref b1), .val (.long y1), .second, .unset] [(.int (1 : Int32)), (.ref b1), (.int (0 : Int32))])) _
    refine st6 _ ?_
    show Steps p.tables e below (T6.setTop (mkF m 40 #[.val (.ref b1), .val (.long y1), .second, .unset] [(.int (0 : Int32))])) _
    refine XS.istoreN X6.here hx rfl (hb hby dA_40) rfl (l' := #[.val (.ref b1), .val (.long y1), .second, .val (.int (0 : Int32))]) rfl ?_
    show Steps p.tables e below (T6.setTop (mkF m 41 #[.val (.ref b1), .val (.long y1), .second, .val (.int (0 : Int32))] [])) _
    refine XS.iloadN X6.here hx rfl (hb hby dA_41) rfl ?_
    show Steps p.tables e below (T6.setTop (mkF m 42 #[.val (.ref b1), .val (.long y1), .second, .val (.int (0 : Int32))] [(.int (0 : Int32))])) _
    refine XS.ifYes X6.here hx rfl (pc0 := 42) (pc' := 85) rfl (hb hby dA_42) rfl ((if0 _ _).trans (flt hc42_11).2.2.2) (by decide) (by decide) ?_
    show Steps p.tables e below (T6.setTop (mkF m 85 #[.val (.ref b1), .val (.long y1), .second, .val (.int (0 : Int32))] [])) _
    refine XS.aloadN X6.here hx rfl (hb hby dA_85) rfl rfl ?_
    show Steps p.tables e below (T6.setTop (mkF m 86 #[.val (.ref b1), .val (.long y1), .second, .val (.int (0 : Int32))] [(.ref b1)])) _
    refine st12 _ ?_
    show Steps p.tables e below (T12.setTop (mkF m 89 #[.val (.ref b1), .val (.long y1), .second, .val (.int (0 : Int32))] [(.ref q1)])) _
    refine XS.iloadN X12.here hx rfl (hb hby dA_89) rfl ?_
    show Steps p.tables e below (T12.setTop (mkF m 90 #[.val (.ref b1), .val (.long y1), .second, .val (.int (0 : Int32))] [(.int (0 : Int32)), (.ref q1)])) _
    refine XS.lloadN X12.here hx rfl (hb hby dA_90) rfl ?_
    show Steps p.tables e below (T12.setTop (mkF m 91 #[.val (.ref b1), .val (.long y1), .second, .val (.int (0 : Int32))] [(.long y1), (.int (0 : Int32)), (.ref q1)])) _
    refine st14 _ ?_
    show Steps p.tables e below (T14.setTop (mkF m 92 #[.val (.ref b1), .val (.long y1), .second, .val (.int (0 : Int32))] [])) _
    exact X14.returnOut hx Bd.returns (hb hby dA_92) hr
  · exact ⟨rfl, N14, K14, E18, F16, F17, _, _, _, _, _, _, by rw [own_add_0], V15⟩
def own_add_1 (x0 : Int64) (x1 : Int64) (x2 : Int64) (x3 : Int64) (x4 : Int64) (x5 : Int64) (y1 : Int64) : List Int64 :=
  if y1 < x0 then
    [y1, x0, x2, x3, x4, x5]
  else
    [x0, y1, x2, x3, x4, x5]
theorem pn_a1 : plainName "com/example/kdata/kdata/LongHeap" = true := by first | (simp [plainName, overriddenIn]; done) | decide +kernel
theorem ef_a1 (m : MethodId) (x0 : Addr) (x1 : Int64) : entryFrame m #[(.ref x0), (.long x1)] 4 = mkF m 0 #[.val (.ref x0), .val (.long x1), .second, .unset] [] := by first | (simp [entryFrame, mkF, argsToLocals, Value.category]; done) | rfl
def Qa1 (Z : State) (b1 q1 : Addr) (k1 : ClassId) (x0 : Int64) (x1 : Int64) (x2 : Int64) (x3 : Int64) (x4 : Int64) (x5 : Int64) (y1 : Int64) (h0 : Heap) (n0 : Nat) (v : Option Value) (h : Heap) (L : List Loc) : Prop := v = none ∧ Fr n0 L ∧ Keep h0 h [b1, q1] ∧ Exa Z h b1 "com/example/kdata/kdata/LongHeap" ∧ Fld Z h b1 "com/example/kdata/kdata/LongHeap" "data" "[J" (.ref q1) ∧ Fld Z h b1 "com/example/kdata/kdata/LongHeap" "size" "I" (.int (2 : Int32)) ∧ ∃ z0 z1 z2 z3 z4 z5 : Int64, [z0, z1, z2, z3, z4, z5] = own_add_1 x0 x1 x2 x3 x4 x5 y1 ∧ Arv Z h q1 k1 .long (16 : Int32) [(.long z0), (.long z1), (.long z2), (.long z3), (.long z4), (.long z5), (.long (0 : Int64)), (.long (0 : Int64)), (.long (0 : Int64)), (.long (0 : Int64)), (.long (0 : Int64)), (.long (0 : Int64)), (.long (0 : Int64)), (.long (0 : Int64)), (.long (0 : Int64)), (.long (0 : Int64))] (.long (0 : Int64))
set_option maxRecDepth 65536 in
set_option maxHeartbeats 40000000 in
theorem rma1 (l : Launch) (Z : State) (a0 : Array Value) (hw : ∀ d ∈ tables_1, d.before a0 Z = true) (ws : List Jvm.Cond)  (b1 q1 : Addr) (k1 : ClassId) (x0 : Int64) (x1 : Int64) (x2 : Int64) (x3 : Int64) (x4 : Int64) (x5 : Int64) (y1 : Int64) (h0 : Heap) (n0 : Nat) (Z0 : n0 ≤ h0.size) (F_d : Fld Z h0 b1 "com/example/kdata/kdata/LongHeap" "data" "[J" (.ref q1)) (F_s : Fld Z h0 b1 "com/example/kdata/kdata/LongHeap" "size" "I" (.int (1 : Int32))) (E_b1 : Exa Z h0 b1 "com/example/kdata/kdata/LongHeap") (lo_b1 : n0 ≤ b1) (lo_q1 : n0 ≤ q1) (lt_q : b1 < q1) (V_q1 : Arv Z h0 q1 k1 .long (16 : Int32) [(.long x0), (.long x1), (.long x2), (.long x3), (.long x4), (.long x5), (.long (0 : Int64)), (.long (0 : Int64)), (.long (0 : Int64)), (.long (0 : Int64)), (.long (0 : Int64)), (.long (0 : Int64)), (.long (0 : Int64)), (.long (0 : Int64)), (.long (0 : Int64)), (.long (0 : Int64))] (.long (0 : Int64))) :
    MetFree l (⟨"com/example/kdata/kdata/LongHeap", "add", "(J)V"⟩ : MethodName) (head1 (Jvm.Cond.code (⟨"com/example/kdata/kdata/LongHeap", "add", "(J)V"⟩ : MethodName) prog_81_method_3_code 4 none :: ws) ({ frames := 0, cells := 0, slots := 0, locals := 0 } : Room)) (fun a U => a = #[(.ref b1), (.long y1)] ∧ Z.Warmed39 U.vm ∧ U.heap = h0) (fun _ _ _ _ _ => True) (fun _ U o U' => ∃ v L, o = .returned v ∧ Qa1 Z b1 q1 k1 x0 x1 x2 x3 x4 x5 y1 h0 n0 v U'.heap L ∧ FrameEnd U o U' L ({ frames := 0, cells := 0, slots := 0, locals := 0 } : Room).cells ({ frames := 0, cells := 0, slots := 0, locals := 0 } : Room).slots) := by
  refine MetFree.of_bodySF (plainFor_of_name pn_a1) hisR ?_
  intro p e s m args below meth c s₁ Bd hml0 hP hK
  obtain ⟨rfl, hZ, hh⟩ := hP
  have hx := Bd.exec
  have hby := Bd.bytes
  have hml : c.maxLocals = 4 := hml0
  have hown : s.vm.findClass "com/example/kdata/kdata/LongHeap" = some m.cls := findClass_of_methodNamed Bd.named
  have hnm := (name_of_methodNamed Bd.named Bd.method).1
  have X0 : Stand p l e ({ frames := 0, cells := 0, slots := 0, locals := 0 } : Room) s m #[(.ref b1), (.long y1)] below meth c s₁ [] 0 0 := Stand.of_body Bd
  have e0 : s₁.heap = h0 := by rw [← hh, Bd.state]; rfl
  have N0 := Fr.nil n0
  show own_Go p e below s (Qa1 Z b1 q1 k1 x0 x1 x2 x3 x4 x5 y1 h0 n0) ({ frames := 0, cells := 0, slots := 0, locals := 0 } : Room).cells ({ frames := 0, cells := 0, slots := 0, locals := 0 } : Room).slots (s₁.setTop (entryFrame m #[(.ref b1), (.long y1)] 4))
  refine own_go (b := s₁.setTop (mkF m 0 #[.val (.ref b1), .val (.long y1), .second, .unset] [])) (fun t k => castTop (ef_a1 m b1 y1) k) ?_
  have K0 := Keep.refl h0 [b1, q1]
  obtain ⟨T1, X1, e1, st1⟩ := getF X0 hx hZ hown (host := "") (Or.inl (hw _ (List.mem_of_getElem? (i := 21) rfl))) Via.refl e0 F_s (g := (mkF m 1 #[.val (.ref b1), .val (.long y1), .second, .unset] [(.ref b1)])) rfl rfl (hb hby dA_1)
  obtain ⟨T2, X2, e2, st2⟩ := getF X1 hx hZ hown (host := "") (Or.inl (hw _ (List.mem_of_getElem? (i := 14) rfl))) Via.refl e1 F_d (g := (mkF m 5 #[.val (.ref b1), .val (.long y1), .second, .unset] [(.ref b1), (.int (1 : Int32))])) rfl rfl (hb hby dA_5)
  obtain ⟨cl3, Ar3, q3, S3, M3, H3, U3⟩ := id V_q1
  have hc9_4 : ¬ ((1 : Int32) = (16 : Int32)) := (by decide)
  obtain ⟨T5, X5, e5, st5⟩ := getF X2 hx hZ hown (host := "") (Or.inl (hw _ (List.mem_of_getElem? (i := 21) rfl))) Via.refl e2 F_s (g := (mkF m 31 #[.val (.ref b1), .val (.long y1), .second, .unset] [(.ref b1), (.ref b1)])) rfl rfl (hb hby dA_31)
  obtain ⟨T6, h6, X6, e6, W6, st6⟩ := putF X5 hx hZ hown (host := "") (Or.inl (hw _ (List.mem_of_getElem? (i := 21) rfl))) Via.refl e5 F_s E_b1 (Or.inl (hw _ (List.mem_of_getElem? (i := 22) rfl))) (hw _ (List.mem_of_getElem? (i := 6) rfl)) (ty := .int) (by decide) rfl rfl (g := (mkF m 37 #[.val (.ref b1), .val (.long y1), .second, .unset] [(.int (2 : Int32)), (.ref b1), (.int (1 : Int32))])) rfl rfl (hb hby dA_37)
  have N6 := Fr.snoc X6 N0 lo_b1
  obtain ⟨lc6, X6, N6⟩ := own_lc X6 N6
  have K6 := K0.wr W6 (Or.inl (List.mem_of_getElem? (i := 0) rfl))
  have F7 : Fld Z h6 b1 "com/example/kdata/kdata/LongHeap" "size" "I" (.int (2 : Int32)) := F_s.same W6
  have F8 := F_d.other W6 (Or.inr (slot_ne (Or.inl (hw _ (List.mem_of_getElem? (i := 15) rfl))) (Or.inl (hw _ (List.mem_of_getElem? (i := 22) rfl))) (by decide) (t := (.array .long)) (t' := .int) (by decide) (by decide)))
  have E9 := E_b1.wr W6
  have V10 := V_q1.other W6 (Nat.ne_of_gt lt_q)
  have Z6 : n0 ≤ h6.size := by rw [W6.size]; exact Z0
  have hc42_11 : (0 : Int32) < (1 : Int32) := (by decide)
  obtain ⟨T12, X12, e12, st12⟩ := getF X6 hx hZ hown (host := "") (Or.inl (hw _ (List.mem_of_getElem? (i := 14) rfl))) Via.refl e6 F8 (g := (mkF m 46 #[.val (.ref b1), .val (.long y1), .second, .val (.int (1 : Int32))] [(.ref b1)])) rfl rfl (hb hby dA_46)
  obtain ⟨cl13, Ar13, q13, S13, M13, H13, U13⟩ := id V10
  have hi14 : ¬ (0 : Int32) < 0 ∧ (0 : Int32).toNatClampNeg < (16 : Int32).toNatClampNeg := by decide
  have ha14 : cl13.slots[(0 : Int32).toNatClampNeg]? = some (.long x0) := H13 _ (by rw [S13]; exact hi14.2)
  refine own_go (b := T12.setTop (mkF m 57 #[.val (.ref b1), .val (.long y1), .second, .val (.int (1 : Int32))] [(.int (lcmpW x0 y1))])) (fun t k => ?_) ?_
  · show Steps p.tables e below (s₁.setTop (mkF m 0 #[.val (.ref b1), .val (.long y1), .second, .unset] [])) _
    refine XS.aloadN X0.here hx rfl (hb hby dA_0) rfl rfl ?_
    show Steps p.tables e below (s₁.setTop (mkF m 1 #[.val (.ref b1), .val (.long y1), .second, .unset] [(.ref b1)])) _
    refine st1 _ ?_
    show Steps p.tables e below (T1.setTop (mkF m 4 #[.val (.ref b1), .val (.long y1), .second, .unset] [(.int (1 : Int32))])) _
    refine XS.aloadN X1.here hx rfl (hb hby dA_4) rfl rfl ?_
    show Steps p.tables e below (T1.setTop (mkF m 5 #[.val (.ref b1), .val (.long y1), .second, .unset] [(.ref b1), (.int (1 : Int32))])) _
    refine st2 _ ?_
    show Steps p.tables e below (T2.setTop (mkF m 8 #[.val (.ref b1), .val (.long y1), .second, .unset] [(.ref q1), (.int (1 : Int32))])) _
    refine X2.arraylength hx (cell := cl3) (by rw [e2]; exact Ar3.1) (State.isArrayOf_alike hZ.alike Ar3.2.1) (g := (mkF m 8 #[.val (.ref b1), .val (.long y1), .second, .unset] [(.ref q1), (.int (1 : Int32))])) rfl (rest := [(.int (1 : Int32))]) rfl (hb hby dA_8) _ ?_
    rw [len_of S3 M3]
    show Steps p.tables e below (T2.setTop (mkF m 9 #[.val (.ref b1), .val (.long y1), .second, .unset] [(.int (16 : Int32)), (.int (1 : Int32))])) _
    refine XS.icmpYes X2.here hx rfl (pc0 := 9) (pc' := 29) rfl (hb hby dA_9) rfl (feq hc9_4).2 (by decide) (by decide) ?_
    show Steps p.tables e below (T2.setTop (mkF m 29 #[.val (.ref b1), .val (.long y1), .second, .unset] [])) _
    refine XS.aloadN X2.here hx rfl (hb hby dA_29) rfl rfl ?_
    show Steps p.tables e below (T2.setTop (mkF m 30 #[.val (.ref b1), .val (.long y1), .second, .unset] [(.ref b1)])) _
    refine XS.dup X2.here hx rfl (hb hby dA_30) rfl rfl ?_
    show Steps p.tables e below (T2.setTop (mkF m 31 #[.val (.ref b1), .val (.long y1), .second, .unset] [(.ref b1), (.ref b1)])) _
    refine st5 _ ?_
    show Steps p.tables e below (T5.setTop (mkF m 34 #[.val (.ref b1), .val (.long y1), .second, .unset] [(.int (1 : Int32)), (.ref b1)])) _
    refine XS.dupX1 X5.here hx rfl (hb hby dA_34) rfl rfl rfl ?_
    show Steps p.tables e below (T5.setTop (mkF m 35 #[.val (.ref b1), .val (.long y1), .second, .unset] [(.int (1 : Int32)), (.ref b1), (.int (1 : Int32))])) _
    refine XS.iconst X5.here hx rfl (hb hby dA_35) ?_
    show Steps p.tables e below (T5.setTop (mkF m 36 #[.val (.ref b1), .val (.long y1), .second, .unset] [(.int (1 : Int32)), (.int (1 : Int32)), (.ref b1), (.int (1 : Int32))])) _
    refine XS.iadd X5.here hx rfl (hb hby dA_36) rfl ?_
    show Steps p.tables e below (T5.setTop (mkF m 37 #[.val (.ref b1), .val (.long y1), .second, .unset] [(.int (2 : Int32)), (.ref b1), (.int (1 : Int32))])) _
    refine st6 _ ?_
    show Steps p.tables e below (T6.setTop (mkF m 40 #[.val (.ref b1), .val (.long y1), .second, .unset] [(.int (1 : Int32))])) _
    refine XS.istoreN X6.here hx rfl (hb hby dA_40) rfl (l' := #[.val (.ref b1), .val (.long y1), .second, .val (.int (1 : Int32))]) rfl ?_
    show Steps p.tables e below (T6.setTop (mkF m 41 #[.val (.ref b1), .val (.long y1), .second, .val (.int (1 : Int32))] [])) _
    refine XS.iloadN X6.here hx rfl (hb hby dA_41) rfl ?_
    show Steps p.tables e below (T6.setTop (mkF m 42 #[.val (.ref b1), .val (.long y1), .second, .val (.int (1 : Int32))] [(.int (1 : Int32))])) _
    refine XS.ifNo X6.here hx rfl (hb hby dA_42) rfl ((if0 _ _).trans (tlt hc42_11).2.2.2) ?_
    show Steps p.tables e below (T6.setTop (mkF m 45 #[.val (.ref b1), .val (.long y1), .second, .val (.int (1 : Int32))] [])) _
    refine XS.aloadN X6.here hx rfl (hb hby dA_45) rfl rfl ?_
    show Steps p.tables e below (T6.setTop (mkF m 46 #[.val (.ref b1), .val (.long y1), .second, .val (.int (1 : Int32))] [(.ref b1)])) _
    refine st12 _ ?_
    show Steps p.tables e below (T12.setTop (mkF m 49 #[.val (.ref b1), .val (.long y1), .second, .val (.int (1 : Int32))] [(.ref q1)])) _
    refine XS.iloadN X12.here hx rfl (hb hby dA_49) rfl ?_
    show Steps p.tables e below (T12.setTop (mkF m 50 #[.val (.ref b1), .val (.long y1), .second, .val (.int (1 : Int32))] [(.int (1 : Int32)), (.ref q1)])) _
    refine XS.iconst X12.here hx rfl (hb hby dA_50) ?_
    show Steps p.tables e below (T12.setTop (mkF m 51 #[.val (.ref b1), .val (.long y1), .second, .val (.int (1 : Int32))] [(.int (1 : Int32)), (.int (1 : Int32)), (.ref q1)])) _
    refine XS.isub X12.here hx rfl (hb hby dA_51) rfl ?_
    show Steps p.tables e below (T12.setTop (mkF m 52 #[.val (.ref b1), .val (.long y1), .second, .val (.int (1 : Int32))] [(.int (0 : Int32)), (.ref q1)])) _
    refine XS.iconst X12.here hx rfl (hb hby dA_52) ?_
    show Steps p.tables e below (T12.setTop (mkF m 53 #[.val (.ref b1), .val (.long y1), .second, .val (.int (1 : Int32))] [(.int (1 : Int32)), (.int (0 : Int32)), (.ref q1)])) _
    refine XS.iushr X12.here hx rfl (hb hby dA_53) rfl ?_
    show Steps p.tables e below (T12.setTop (mkF m 54 #[.val (.ref b1), .val (.long y1), .second, .val (.int (1 : Int32))] [(.int (0 : Int32)), (.ref q1)])) _
    refine X12.laload hx (j := (0 : Int32)) (v := (.long x0)) (by rw [e12]; exact Ar13.1) (State.isArrayOf_alike hZ.alike Ar13.2.1) Ar13.2.2 (own_hin S13 hi14) ha14 (g := (mkF m 54 #[.val (.ref b1), .val (.long y1), .second, .val (.int (1 : Int32))] [(.int (0 : Int32)), (.ref q1)])) rfl rfl (hb hby dA_54) _ ?_
    show Steps p.tables e below (T12.setTop (mkF m 55 #[.val (.ref b1), .val (.long y1), .second, .val (.int (1 : Int32))] [(.long x0)])) _
    refine XS.lloadN X12.here hx rfl (hb hby dA_55) rfl ?_
    show Steps p.tables e below (T12.setTop (mkF m 56 #[.val (.ref b1), .val (.long y1), .second, .val (.int (1 : Int32))] [(.long y1), (.long x0)])) _
    refine XS.lcmp X12.here hx rfl (hb hby dA_56) rfl ?_
    show Steps p.tables e below (T12.setTop (mkF m 57 #[.val (.ref b1), .val (.long y1), .second, .val (.int (1 : Int32))] [(.int (lcmpW x0 y1))])) _
    exact k
  by_cases hc57 : y1 < x0
  · obtain ⟨T15, X15, e15, st15⟩ := getF X12 hx hZ hown (host := "") (Or.inl (hw _ (List.mem_of_getElem? (i := 14) rfl))) Via.refl e12 F8 (g := (mkF m 61 #[.val (.ref b1), .val (.long y1), .second, .val (.int (1 : Int32))] [(.ref b1)])) rfl rfl (hb hby dA_61)
    obtain ⟨T16, X16, e16, st16⟩ := getF X15 hx hZ hown (host := "") (Or.inl (hw _ (List.mem_of_getElem? (i := 14) rfl))) Via.refl e15 F8 (g := (mkF m 66 #[.val (.ref b1), .val (.long y1), .second, .val (.int (1 : Int32))] [(.ref b1), (.int (1 : Int32)), (.ref q1)])) rfl rfl (hb hby dA_66)
    have hi17 : ¬ (0 : Int32) < 0 ∧ (0 : Int32).toNatClampNeg < (16 : Int32).toNatClampNeg := by decide
    have ha17 : cl13.slots[(0 : Int32).toNatClampNeg]? = some (.long x0) := H13 _ (by rw [S13]; exact hi17.2)
    obtain ⟨T18, h18, X18, e18, W18, st18⟩ := stJ X16 hx hZ e16 Ar13 (j := (1 : Int32)) (by rw [S13]; decide) (g := (mkF m 75 #[.val (.ref b1), .val (.long y1), .second, .val (.int (1 : Int32))] [(.long x0), (.int (1 : Int32)), (.ref q1)])) rfl rfl (hb hby dA_75)
    have N18 := Fr.snoc X18 N6 lo_q1
    obtain ⟨lc18, X18, N18⟩ := own_lc X18 N18
    have V19 : Arv Z h18 q1 k1 .long (16 : Int32) [(.long x0), (.long x0), (.long x2), (.long x3), (.long x4), (.long x5), (.long (0 : Int64)), (.long (0 : Int64)), (.long (0 : Int64)), (.long (0 : Int64)), (.long (0 : Int64)), (.long (0 : Int64)), (.long (0 : Int64)), (.long (0 : Int64)), (.long (0 : Int64)), (.long (0 : Int64))] (.long (0 : Int64)) := Arv.set Ar13 q13 S13 M13 H13 U13 rfl W18 1 rfl (by show 1 < 16; decide)
    have K18 := K6.wr W18 (Or.inl (List.mem_of_getElem? (i := 1) rfl))
    have F20 := F8.other W18 (Or.inl (Nat.ne_of_lt lt_q))
    have F21 := F7.other W18 (Or.inl (Nat.ne_of_lt lt_q))
    have E22 := E9.wr W18
    have Z18 : n0 ≤ h18.size := by rw [W18.size]; exact Z6
    have hc42_23 : ¬ ((0 : Int32) < (0 : Int32)) := (by decide)
    obtain ⟨T24, X24, e24, st24⟩ := getF X18 hx hZ hown (host := "") (Or.inl (hw _ (List.mem_of_getElem? (i := 14) rfl))) Via.refl e18 F20 (g := (mkF m 86 #[.val (.ref b1), .val (.long y1), .second, .val (.int (0 : Int32))] [(.ref b1)])) rfl rfl (hb hby dA_86)
    obtain ⟨cl25, Ar25, q25, S25, M25, H25, U25⟩ := id V19
    obtain ⟨T26, h26, X26, e26, W26, st26⟩ := stJ X24 hx hZ e24 Ar25 (j := (0 : Int32)) (by rw [S25]; decide) (g := (mkF m 91 #[.val (.ref b1), .val (.long y1), .second, .val (.int (0 : Int32))] [(.long y1), (.int (0 : Int32)), (.ref q1)])) rfl rfl (hb hby dA_91)
    have N26 := Fr.snoc X26 N18 lo_q1
    obtain ⟨lc26, X26, N26⟩ := own_lc X26 N26
    have V27 : Arv Z h26 q1 k1 .long (16 : Int32) [(.long y1), (.long x0), (.long x2), (.long x3), (.long x4), (.long x5), (.long (0 : Int64)), (.long (0 : Int64)), (.long (0 : Int64)), (.long (0 : Int64)), (.long (0 : Int64)), (.long (0 : Int64)), (.long (0 : Int64)), (.long (0 : Int64)), (.long (0 : Int64)), (.long (0 : Int64))] (.long (0 : Int64)) := Arv.set Ar25 q25 S25 M25 H25 U25 rfl W26 0 rfl (by show 0 < 16; decide)
    have K26 := K18.wr W26 (Or.inl (List.mem_of_getElem? (i := 1) rfl))
    have F28 := F20.other W26 (Or.inl (Nat.ne_of_lt lt_q))
    have F29 := F21.other W26 (Or.inl (Nat.ne_of_lt lt_q))
    have E30 := E22.wr W26
    have Z26 : n0 ≤ h26.size := by rw [W26.size]; exact Z18
    refine own_end X26 Bd.notSynchronized (v := none) (fun _ => rfl) (fun fs hr => ?_) e26 ?_ (by decide) (by decide)
    · show Steps p.tables e below (T12.setTop (mkF m 57 #[.val (.ref b1), .val (.long y1), .second, .val (.int (1 : Int32))] [(.int (lcmpW x0 y1))])) _
      refine XS.ifNo X12.here hx rfl (hb hby dA_57) rfl ((if0 _ _).trans (tlt ((lw_gt x0 y1).mpr hc57)).2.2.2) ?_
      show Steps p.tables e below (T12.setTop (mkF m 60 #[.val (.ref b1), .val (.long y1), .second, .val (.int (1 : Int32))] [])) _
      refine XS.aloadN X12.here hx rfl (hb hby dA_60) rfl rfl ?_
      show Steps p.tables e below (T12.setTop (mkF m 61 #[.val (.ref b1), .val (.long y1), .second, .val (.int (1 : Int32))] [(.ref b1)])) _
      refine st15 _ ?_
      show Steps p.tables e below (T15.setTop (mkF m 64 #[.val (.ref b1), .val (.long y1), .second, .val (.int (1 : Int32))] [(.ref q1)])) _
      refine XS.iloadN X15.here hx rfl (hb hby dA_64) rfl ?_
      show Steps p.tables e below (T15.setTop (mkF m 65 #[.val (.ref b1), .val (.long y1), .second, .val (.int (1 : Int32))] [(.int (1 : Int32)), (.ref q1)])) _
      refine XS.aloadN X15.here hx rfl (hb hby dA_65) rfl rfl ?_
      show Steps p.tables e below (T15.setTop (mkF m 66 #[.val (.ref b1), .val (.long y1), .second, .val (.int (1 : Int32))] [(.ref b1), (.int (1 : Int32)), (.ref q1)])) _
      refine st16 _ ?_
      show Steps p.tables e below (T16.setTop (mkF m 69 #[.val (.ref b1), .val (.long y1), .second, .val (.int (1 : Int32))] [(.ref q1), (.int (1 : Int32)), (.ref q1)])) _
      refine XS.iloadN X16.here hx rfl (hb hby dA_69) rfl ?_
      show Steps p.tables e below (T16.setTop (mkF m 70 #[.val (.ref b1), .val (.long y1), .second, .val (.int (1 : Int32))] [(.int (1 : Int32)), (.ref q1), (.int (1 : Int32)), (.ref q1)])) _
      refine XS.iconst X16.here hx rfl (hb hby dA_70) ?_
      show Steps p.tables e below (T16.setTop (mkF m 71 #[.val (.ref b1), .val (.long y1), .second, .val (.int (1 : Int32))] [(.int (1 : Int32)), (.int (1 : Int32)), (.ref q1), (.int (1 : Int32)), (.ref q1)])) _
      refine XS.isub X16.here hx rfl (hb hby dA_71) rfl ?_
      show Steps p.tables e below (T16.setTop (mkF m 72 #[.val (.ref b1), .val (.long y1), .second, .val (.int (1 : Int32))] [(.int (0 : Int32)), (.ref q1), (.int (1 : Int32)), (.ref q1)])) _
      refine XS.iconst X16.here hx rfl (hb hby dA_72) ?_
      show Steps p.tables e below (T16.setTop (mkF m 73 #[.val (.ref b1), .val (.long y1), .second, .val (.int (1 : Int32))] [(.int (1 : Int32)), (.int (0 : Int32)), (.ref q1), (.int (1 : Int32)), (.ref q1)])) _
      refine XS.iushr X16.here hx rfl (hb hby dA_73) rfl ?_
      show Steps p.tables e below (T16.setTop (mkF m 74 #[.val (.ref b1), .val (.long y1), .second, .val (.int (1 : Int32))] [(.int (0 : Int32)), (.ref q1), (.int (1 : Int32)), (.ref q1)])) _
      refine X16.laload hx (j := (0 : Int32)) (v := (.long x0)) (by rw [e16]; exact Ar13.1) (State.isArrayOf_alike hZ.alike Ar13.2.1) Ar13.2.2 (own_hin S13 hi17) ha17 (g := (mkF m 74 #[.val (.ref b1), .val (.long y1), .second, .val (.int (1 : Int32))] [(.int (0 : Int32)), (.ref q1), (.int (1 : Int32)), (.ref q1)])) rfl rfl (hb hby dA_74) _ ?_
      show Steps p.tables e below (T16.setTop (mkF m 75 #[.val (.ref b1), .val (.long y1), .second, .val (.int (1 : Int32))] [(.long x0), (.int (1 : Int32)), (.ref q1)])) _
      refine st18 _ ?_
      show Steps p.tables e below (T18.setTop (mkF m 76 #[.val (.ref b1), .val (.long y1), .second, .val (.int (1 : Int32))] [])) _
      refine XS.iloadN X18.here hx rfl (hb hby dA_76) rfl ?_
      show Steps p.tables e below (T18.setTop (mkF m 77 #[.val (.ref b1), .val (.long y1), .second, .val (.int (1 : Int32))] [(.int (1 : Int32))])) _
      refine XS.iconst X18.here hx rfl (hb hby dA_77) ?_
      show Steps p.tables e below (T18.setTop (mkF m 78 #[.val (.ref b1), .val (.long y1), .second, .val (.int (1 : Int32))] [(.int (1 : Int32)), (.int (1 : Int32))])) _
      refine XS.isub X18.here hx rfl (hb hby dA_78) rfl ?_
      show Steps p.tables e below (T18.setTop (mkF m 79 #[.val (.ref b1), .val (.long y1), .second, .val (.int (1 : Int32))] [(.int (0 : Int32))])) _
      refine XS.iconst X18.here hx rfl (hb hby dA_79) ?_
      show Steps p.tables e below (T18.setTop (mkF m 80 #[.val (.ref b1), .val (.long y1), .second, .val (.int (1 : Int32))] [(.int (1 : Int32)), (.int (0 : Int32))])) _
      refine XS.iushr X18.here hx rfl (hb hby dA_80) rfl ?_
      show Steps p.tables e below (T18.setTop (mkF m 81 #[.val (.ref b1), .val (.long y1), .second, .val (.int (1 : Int32))] [(.int (0 : Int32))])) _
      refine XS.istoreN X18.here hx rfl (hb hby dA_81) rfl (l' := #[.val (.ref b1), .val (.long y1), .second, .val (.int (0 : Int32))]) rfl ?_
      show Steps p.tables e below (T18.setTop (mkF m 82 #[.val (.ref b1), .val (.long y1), .second, .val (.int (0 : Int32))] [])) _
      refine XS.goto X18.here hx rfl (pc0 := 82) (pc' := 41) rfl (hb hby dA_82) (by decide) (by decide) ?_
      show Steps p.tables e below (T18.setTop (mkF m 41 #[.val (.ref b1), .val (.long y1), .second, .val (.int (0 : Int32))] [])) _
      refine XS.iloadN X18.here hx rfl (hb hby dA_41) rfl ?_
      show Steps p.tables e below (T18.setTop (mkF m 42 #[.val (.ref b1), .val (.long y1), .second, .val (.int (0 : Int32))] [(.int (0 : Int32))])) _
      refine XS.ifYes X18.here hx rfl (pc0 := 42) (pc' := 85) rfl (hb hby dA_42) rfl ((if0 _ _).trans (flt hc42_23).2.2.2) (by decide) (by decide) ?_
      show Steps p.tables e below (T18.setTop (mkF m 85 #[.val (.ref b1), .val (.long y1), .second, .val (.int (0 : Int32))] [])) _
      refine XS.aloadN X18.here hx rfl (hb hby dA_85) rfl rfl ?_
      show Steps p.tables e below (T18.setTop (mkF m 86 #[.val (.ref b1), .val (.long y1), .second, .val (.int (0 : Int32))] [(.ref b1)])) _
      refine st24 _ ?_
      show Steps p.tables e below (T24.setTop (mkF m 89 #[.val (.ref b1), .val (.long y1), .second, .val (.int (0 : Int32))] [(.ref q1)])) _
      refine XS.iloadN X24.here hx rfl (hb hby dA_89) rfl ?_
      show Steps p.tables e below (T24.setTop (mkF m 90 #[.val (.ref b1), .val (.long y1), .second, .val (.int (0 : Int32))] [(.int (0 : Int32)), (.ref q1)])) _
      refine XS.lloadN X24.here hx rfl (hb hby dA_90) rfl ?_
      show Steps p.tables e below (T24.setTop (mkF m 91 #[.val (.ref b1), .val (.long y1), .second, .val (.int (0 : Int32))] [(.long y1), (.int (0 : Int32)), (.ref q1)])) _
      refine st26 _ ?_
      show Steps p.tables e below (T26.setTop (mkF m 92 #[.val (.ref b1), .val (.long y1), .second, .val (.int (0 : Int32))] [])) _
      exact X26.returnOut hx Bd.returns (hb hby dA_92) hr
    · exact ⟨rfl, N26, K26, E30, F28, F29, _, _, _, _, _, _, by rw [own_add_1, if_pos hc57], V27⟩
  · obtain ⟨T31, X31, e31, st31⟩ := getF X12 hx hZ hown (host := "") (Or.inl (hw _ (List.mem_of_getElem? (i := 14) rfl))) Via.refl e12 F8 (g := (mkF m 86 #[.val (.ref b1), .val (.long y1), .second, .val (.int (1 : Int32))] [(.ref b1)])) rfl rfl (hb hby dA_86)
    obtain ⟨T32, h32, X32, e32, W32, st32⟩ := stJ X31 hx hZ e31 Ar13 (j := (1 : Int32)) (by rw [S13]; decide) (g := (mkF m 91 #[.val (.ref b1), .val (.long y1), .second, .val (.int (1 : Int32))] [(.long y1), (.int (1 : Int32)), (.ref q1)])) rfl rfl (hb hby dA_91)
    have N32 := Fr.snoc X32 N6 lo_q1
    obtain ⟨lc32, X32, N32⟩ := own_lc X32 N32
    have V33 : Arv Z h32 q1 k1 .long (16 : Int32) [(.long x0), (.long y1), (.long x2), (.long x3), (.long x4), (.long x5), (.long (0 : Int64)), (.long (0 : Int64)), (.long (0 : Int64)), (.long (0 : Int64)), (.long (0 : Int64)), (.long (0 : Int64)), (.long (0 : Int64)), (.long (0 : Int64)), (.long (0 : Int64)), (.long (0 : Int64))] (.long (0 : Int64)) := Arv.set Ar13 q13 S13 M13 H13 U13 rfl W32 1 rfl (by show 1 < 16; decide)
    have K32 := K6.wr W32 (Or.inl (List.mem_of_getElem? (i := 1) rfl))
    have F34 := F8.other W32 (Or.inl (Nat.ne_of_lt lt_q))
    have F35 := F7.other W32 (Or.inl (Nat.ne_of_lt lt_q))
    have E36 := E9.wr W32
    have Z32 : n0 ≤ h32.size := by rw [W32.size]; exact Z6
    refine own_end X32 Bd.notSynchronized (v := none) (fun _ => rfl) (fun fs hr => ?_) e32 ?_ (by decide) (by decide)
    · show Steps p.tables e below (T12.setTop (mkF m 57 #[.val (.ref b1), .val (.long y1), .second, .val (.int (1 : Int32))] [(.int (lcmpW x0 y1))])) _
      refine XS.ifYes X12.here hx rfl (pc0 := 57) (pc' := 85) rfl (hb hby dA_57) rfl ((if0 _ _).trans (flt (fun q => hc57 ((lw_gt x0 y1).mp q))).2.2.2) (by decide) (by decide) ?_
      show Steps p.tables e below (T12.setTop (mkF m 85 #[.val (.ref b1), .val (.long y1), .second, .val (.int (1 : Int32))] [])) _
      refine XS.aloadN X12.here hx rfl (hb hby dA_85) rfl rfl ?_
      show Steps p.tables e below (T12.setTop (mkF m 86 #[.val (.ref b1), .val (.long y1), .second, .val (.int (1 : Int32))] [(.ref b1)])) _
      refine st31 _ ?_
      show Steps p.tables e below (T31.setTop (mkF m 89 #[.val (.ref b1), .val (.long y1), .second, .val (.int (1 : Int32))] [(.ref q1)])) _
      refine XS.iloadN X31.here hx rfl (hb hby dA_89) rfl ?_
      show Steps p.tables e below (T31.setTop (mkF m 90 #[.val (.ref b1), .val (.long y1), .second, .val (.int (1 : Int32))] [(.int (1 : Int32)), (.ref q1)])) _
      refine XS.lloadN X31.here hx rfl (hb hby dA_90) rfl ?_
      show Steps p.tables e below (T31.setTop (mkF m 91 #[.val (.ref b1), .val (.long y1), .second, .val (.int (1 : Int32))] [(.long y1), (.int (1 : Int32)), (.ref q1)])) _
      refine st32 _ ?_
      show Steps p.tables e below (T32.setTop (mkF m 92 #[.val (.ref b1), .val (.long y1), .second, .val (.int (1 : Int32))] [])) _
      exact X32.returnOut hx Bd.returns (hb hby dA_92) hr
    · exact ⟨rfl, N32, K32, E36, F34, F35, _, _, _, _, _, _, by rw [own_add_1, if_neg hc57], V33⟩
def own_add_2 (x0 : Int64) (x1 : Int64) (x2 : Int64) (x3 : Int64) (x4 : Int64) (x5 : Int64) (y1 : Int64) : List Int64 :=
  if y1 < x0 then
    [y1, x1, x0, x3, x4, x5]
  else
    [x0, x1, y1, x3, x4, x5]
theorem pn_a2 : plainName "com/example/kdata/kdata/LongHeap" = true := by first | (simp [plainName, overriddenIn]; done) | decide +kernel
theorem ef_a2 (m : MethodId) (x0 : Addr) (x1 : Int64) : entryFrame m #[(.ref x0), (.long x1)] 4 = mkF m 0 #[.val (.ref x0), .val (.long x1), .second, .unset] [] := by first | (simp [entryFrame, mkF, argsToLocals, Value.category]; done) | rfl
def Qa2 (Z : State) (b1 q1 : Addr) (k1 : ClassId) (x0 : Int64) (x1 : Int64) (x2 : Int64) (x3 : Int64) (x4 : Int64) (x5 : Int64) (y1 : Int64) (h0 : Heap) (n0 : Nat) (v : Option Value) (h : Heap) (L : List Loc) : Prop := v = none ∧ Fr n0 L ∧ Keep h0 h [b1, q1] ∧ Exa Z h b1 "com/example/kdata/kdata/LongHeap" ∧ Fld Z h b1 "com/example/kdata/kdata/LongHeap" "data" "[J" (.ref q1) ∧ Fld Z h b1 "com/example/kdata/kdata/LongHeap" "size" "I" (.int (3 : Int32)) ∧ ∃ z0 z1 z2 z3 z4 z5 : Int64, [z0, z1, z2, z3, z4, z5] = own_add_2 x0 x1 x2 x3 x4 x5 y1 ∧ Arv Z h q1 k1 .long (16 : Int32) [(.long z0), (.long z1), (.long z2), (.long z3), (.long z4), (.long z5), (.long (0 : Int64)), (.long (0 : Int64)), (.long (0 : Int64)), (.long (0 : Int64)), (.long (0 : Int64)), (.long (0 : Int64)), (.long (0 : Int64)), (.long (0 : Int64)), (.long (0 : Int64)), (.long (0 : Int64))] (.long (0 : Int64))
set_option maxRecDepth 65536 in
set_option maxHeartbeats 40000000 in
theorem rma2 (l : Launch) (Z : State) (a0 : Array Value) (hw : ∀ d ∈ tables_1, d.before a0 Z = true) (ws : List Jvm.Cond)  (b1 q1 : Addr) (k1 : ClassId) (x0 : Int64) (x1 : Int64) (x2 : Int64) (x3 : Int64) (x4 : Int64) (x5 : Int64) (y1 : Int64) (h0 : Heap) (n0 : Nat) (Z0 : n0 ≤ h0.size) (F_d : Fld Z h0 b1 "com/example/kdata/kdata/LongHeap" "data" "[J" (.ref q1)) (F_s : Fld Z h0 b1 "com/example/kdata/kdata/LongHeap" "size" "I" (.int (2 : Int32))) (E_b1 : Exa Z h0 b1 "com/example/kdata/kdata/LongHeap") (lo_b1 : n0 ≤ b1) (lo_q1 : n0 ≤ q1) (lt_q : b1 < q1) (V_q1 : Arv Z h0 q1 k1 .long (16 : Int32) [(.long x0), (.long x1), (.long x2), (.long x3), (.long x4), (.long x5), (.long (0 : Int64)), (.long (0 : Int64)), (.long (0 : Int64)), (.long (0 : Int64)), (.long (0 : Int64)), (.long (0 : Int64)), (.long (0 : Int64)), (.long (0 : Int64)), (.long (0 : Int64)), (.long (0 : Int64))] (.long (0 : Int64))) :
    MetFree l (⟨"com/example/kdata/kdata/LongHeap", "add", "(J)V"⟩ : MethodName) (head1 (Jvm.Cond.code (⟨"com/example/kdata/kdata/LongHeap", "add", "(J)V"⟩ : MethodName) prog_81_method_3_code 4 none :: ws) ({ frames := 0, cells := 0, slots := 0, locals := 0 } : Room)) (fun a U => a = #[(.ref b1), (.long y1)] ∧ Z.Warmed39 U.vm ∧ U.heap = h0) (fun _ _ _ _ _ => True) (fun _ U o U' => ∃ v L, o = .returned v ∧ Qa2 Z b1 q1 k1 x0 x1 x2 x3 x4 x5 y1 h0 n0 v U'.heap L ∧ FrameEnd U o U' L ({ frames := 0, cells := 0, slots := 0, locals := 0 } : Room).cells ({ frames := 0, cells := 0, slots := 0, locals := 0 } : Room).slots) := by
  refine MetFree.of_bodySF (plainFor_of_name pn_a2) hisR ?_
  intro p e s m args below meth c s₁ Bd hml0 hP hK
  obtain ⟨rfl, hZ, hh⟩ := hP
  have hx := Bd.exec
  have hby := Bd.bytes
  have hml : c.maxLocals = 4 := hml0
  have hown : s.vm.findClass "com/example/kdata/kdata/LongHeap" = some m.cls := findClass_of_methodNamed Bd.named
  have hnm := (name_of_methodNamed Bd.named Bd.method).1
  have X0 : Stand p l e ({ frames := 0, cells := 0, slots := 0, locals := 0 } : Room) s m #[(.ref b1), (.long y1)] below meth c s₁ [] 0 0 := Stand.of_body Bd
  have e0 : s₁.heap = h0 := by rw [← hh, Bd.state]; rfl
  have N0 := Fr.nil n0
  show own_Go p e below s (Qa2 Z b1 q1 k1 x0 x1 x2 x3 x4 x5 y1 h0 n0) ({ frames := 0, cells := 0, slots := 0, locals := 0 } : Room).cells ({ frames := 0, cells := 0, slots := 0, locals := 0 } : Room).slots (s₁.setTop (entryFrame m #[(.ref b1), (.long y1)] 4))
  refine own_go (b := s₁.setTop (mkF m 0 #[.val (.ref b1), .val (.long y1), .second, .unset] [])) (fun t k => castTop (ef_a2 m b1 y1) k) ?_
  have K0 := Keep.refl h0 [b1, q1]
  obtain ⟨T1, X1, e1, st1⟩ := getF X0 hx hZ hown (host := "") (Or.inl (hw _ (List.mem_of_getElem? (i := 21) rfl))) Via.refl e0 F_s (g := (mkF m 1 #[.val (.ref b1), .val (.long y1), .second, .unset] [(.ref b1)])) rfl rfl (hb hby dA_1)
  obtain ⟨T2, X2, e2, st2⟩ := getF X1 hx hZ hown (host := "") (Or.inl (hw _ (List.mem_of_getElem? (i := 14) rfl))) Via.refl e1 F_d (g := (mkF m 5 #[.val (.ref b1), .val (.long y1), .second, .unset] [(.ref b1), (.int (2 : Int32))])) rfl rfl (hb hby dA_5)
  obtain ⟨cl3, Ar3, q3, S3, M3, H3, U3⟩ := id V_q1
  have hc9_4 : ¬ ((2 : Int32) = (16 : Int32)) := (by decide)
  obtain ⟨T5, X5, e5, st5⟩ := getF X2 hx hZ hown (host := "") (Or.inl (hw _ (List.mem_of_getElem? (i := 21) rfl))) Via.refl e2 F_s (g := (mkF m 31 #[.val (.ref b1), .val (.long y1), .second, .unset] [(.ref b1), (.ref b1)])) rfl rfl (hb hby dA_31)
  obtain ⟨T6, h6, X6, e6, W6, st6⟩ := putF X5 hx hZ hown (host := "") (Or.inl (hw _ (List.mem_of_getElem? (i := 21) rfl))) Via.refl e5 F_s E_b1 (Or.inl (hw _ (List.mem_of_getElem? (i := 22) rfl))) (hw _ (List.mem_of_getElem? (i := 6) rfl)) (ty := .int) (by decide) rfl rfl (g := (mkF m 37 #[.val (.ref b1), .val (.long y1), .second, .unset] [(.int (3 : Int32)), (.ref b1), (.int (2 : Int32))])) rfl rfl (hb hby dA_37)
  have N6 := Fr.snoc X6 N0 lo_b1
  obtain ⟨lc6, X6, N6⟩ := own_lc X6 N6
  have K6 := K0.wr W6 (Or.inl (List.mem_of_getElem? (i := 0) rfl))
  have F7 : Fld Z h6 b1 "com/example/kdata/kdata/LongHeap" "size" "I" (.int (3 : Int32)) := F_s.same W6
  have F8 := F_d.other W6 (Or.inr (slot_ne (Or.inl (hw _ (List.mem_of_getElem? (i := 15) rfl))) (Or.inl (hw _ (List.mem_of_getElem? (i := 22) rfl))) (by decide) (t := (.array .long)) (t' := .int) (by decide) (by decide)))
  have E9 := E_b1.wr W6
  have V10 := V_q1.other W6 (Nat.ne_of_gt lt_q)
  have Z6 : n0 ≤ h6.size := by rw [W6.size]; exact Z0
  have hc42_11 : (0 : Int32) < (2 : Int32) := (by decide)
  obtain ⟨T12, X12, e12, st12⟩ := getF X6 hx hZ hown (host := "") (Or.inl (hw _ (List.mem_of_getElem? (i := 14) rfl))) Via.refl e6 F8 (g := (mkF m 46 #[.val (.ref b1), .val (.long y1), .second, .val (.int (2 : Int32))] [(.ref b1)])) rfl rfl (hb hby dA_46)
  obtain ⟨cl13, Ar13, q13, S13, M13, H13, U13⟩ := id V10
  have hi14 : ¬ (0 : Int32) < 0 ∧ (0 : Int32).toNatClampNeg < (16 : Int32).toNatClampNeg := by decide
  have ha14 : cl13.slots[(0 : Int32).toNatClampNeg]? = some (.long x0) := H13 _ (by rw [S13]; exact hi14.2)
  refine own_go (b := T12.setTop (mkF m 57 #[.val (.ref b1), .val (.long y1), .second, .val (.int (2 : Int32))] [(.int (lcmpW x0 y1))])) (fun t k => ?_) ?_
  · show Steps p.tables e below (s₁.setTop (mkF m 0 #[.val (.ref b1), .val (.long y1), .second, .unset] [])) _
    refine XS.aloadN X0.here hx rfl (hb hby dA_0) rfl rfl ?_
    show Steps p.tables e below (s₁.setTop (mkF m 1 #[.val (.ref b1), .val (.long y1), .second, .unset] [(.ref b1)])) _
    refine st1 _ ?_
    show Steps p.tables e below (T1.setTop (mkF m 4 #[.val (.ref b1), .val (.long y1), .second, .unset] [(.int (2 : Int32))])) _
    refine XS.aloadN X1.here hx rfl (hb hby dA_4) rfl rfl ?_
    show Steps p.tables e below (T1.setTop (mkF m 5 #[.val (.ref b1), .val (.long y1), .second, .unset] [(.ref b1), (.int (2 : Int32))])) _
    refine st2 _ ?_
    show Steps p.tables e below (T2.setTop (mkF m 8 #[.val (.ref b1), .val (.long y1), .second, .unset] [(.ref q1), (.int (2 : Int32))])) _
    refine X2.arraylength hx (cell := cl3) (by rw [e2]; exact Ar3.1) (State.isArrayOf_alike hZ.alike Ar3.2.1) (g := (mkF m 8 #[.val (.ref b1), .val (.long y1), .second, .unset] [(.ref q1), (.int (2 : Int32))])) rfl (rest := [(.int (2 : Int32))]) rfl (hb hby dA_8) _ ?_
    rw [len_of S3 M3]
    show Steps p.tables e below (T2.setTop (mkF m 9 #[.val (.ref b1), .val (.long y1), .second, .unset] [(.int (16 : Int32)), (.int (2 : Int32))])) _
    refine XS.icmpYes X2.here hx rfl (pc0 := 9) (pc' := 29) rfl (hb hby dA_9) rfl (feq hc9_4).2 (by decide) (by decide) ?_
    show Steps p.tables e below (T2.setTop (mkF m 29 #[.val (.ref b1), .val (.long y1), .second, .unset] [])) _
    refine XS.aloadN X2.here hx rfl (hb hby dA_29) rfl rfl ?_
    show Steps p.tables e below (T2.setTop (mkF m 30 #[.val (.ref b1), .val (.long y1), .second, .unset] [(.ref b1)])) _
    refine XS.dup X2.here hx rfl (hb hby dA_30) rfl rfl ?_
    show Steps p.tables e below (T2.setTop (mkF m 31 #[.val (.ref b1), .val (.long y1), .second, .unset] [(.ref b1), (.ref b1)])) _
    refine st5 _ ?_
    show Steps p.tables e below (T5.setTop (mkF m 34 #[.val (.ref b1), .val (.long y1), .second, .unset] [(.int (2 : Int32)), (.ref b1)])) _
    refine XS.dupX1 X5.here hx rfl (hb hby dA_34) rfl rfl rfl ?_
    show Steps p.tables e below (T5.setTop (mkF m 35 #[.val (.ref b1), .val (.long y1), .second, .unset] [(.int (2 : Int32)), (.ref b1), (.int (2 : Int32))])) _
    refine XS.iconst X5.here hx rfl (hb hby dA_35) ?_
    show Steps p.tables e below (T5.setTop (mkF m 36 #[.val (.ref b1), .val (.long y1), .second, .unset] [(.int (1 : Int32)), (.int (2 : Int32)), (.ref b1), (.int (2 : Int32))])) _
    refine XS.iadd X5.here hx rfl (hb hby dA_36) rfl ?_
    show Steps p.tables e below (T5.setTop (mkF m 37 #[.val (.ref b1), .val (.long y1), .second, .unset] [(.int (3 : Int32)), (.ref b1), (.int (2 : Int32))])) _
    refine st6 _ ?_
    show Steps p.tables e below (T6.setTop (mkF m 40 #[.val (.ref b1), .val (.long y1), .second, .unset] [(.int (2 : Int32))])) _
    refine XS.istoreN X6.here hx rfl (hb hby dA_40) rfl (l' := #[.val (.ref b1), .val (.long y1), .second, .val (.int (2 : Int32))]) rfl ?_
    show Steps p.tables e below (T6.setTop (mkF m 41 #[.val (.ref b1), .val (.long y1), .second, .val (.int (2 : Int32))] [])) _
    refine XS.iloadN X6.here hx rfl (hb hby dA_41) rfl ?_
    show Steps p.tables e below (T6.setTop (mkF m 42 #[.val (.ref b1), .val (.long y1), .second, .val (.int (2 : Int32))] [(.int (2 : Int32))])) _
    refine XS.ifNo X6.here hx rfl (hb hby dA_42) rfl ((if0 _ _).trans (tlt hc42_11).2.2.2) ?_
    show Steps p.tables e below (T6.setTop (mkF m 45 #[.val (.ref b1), .val (.long y1), .second, .val (.int (2 : Int32))] [])) _
    refine XS.aloadN X6.here hx rfl (hb hby dA_45) rfl rfl ?_
    show Steps p.tables e below (T6.setTop (mkF m 46 #[.val (.ref b1), .val (.long y1), .second, .val (.int (2 : Int32))] [(.ref b1)])) _
    refine st12 _ ?_
    show Steps p.tables e below (T12.setTop (mkF m 49 #[.val (.ref b1), .val (.long y1), .second, .val (.int (2 : Int32))] [(.ref q1)])) _
    refine XS.iloadN X12.here hx rfl (hb hby dA_49) rfl ?_
    show Steps p.tables e below (T12.setTop (mkF m 50 #[.val (.ref b1), .val (.long y1), .second, .val (.int (2 : Int32))] [(.int (2 : Int32)), (.ref q1)])) _
    refine XS.iconst X12.here hx rfl (hb hby dA_50) ?_
    show Steps p.tables e below (T12.setTop (mkF m 51 #[.val (.ref b1), .val (.long y1), .second, .val (.int (2 : Int32))] [(.int (1 : Int32)), (.int (2 : Int32)), (.ref q1)])) _
    refine XS.isub X12.here hx rfl (hb hby dA_51) rfl ?_
    show Steps p.tables e below (T12.setTop (mkF m 52 #[.val (.ref b1), .val (.long y1), .second, .val (.int (2 : Int32))] [(.int (1 : Int32)), (.ref q1)])) _
    refine XS.iconst X12.here hx rfl (hb hby dA_52) ?_
    show Steps p.tables e below (T12.setTop (mkF m 53 #[.val (.ref b1), .val (.long y1), .second, .val (.int (2 : Int32))] [(.int (1 : Int32)), (.int (1 : Int32)), (.ref q1)])) _
    refine XS.iushr X12.here hx rfl (hb hby dA_53) rfl ?_
    show Steps p.tables e below (T12.setTop (mkF m 54 #[.val (.ref b1), .val (.long y1), .second, .val (.int (2 : Int32))] [(.int (0 : Int32)), (.ref q1)])) _
    refine X12.laload hx (j := (0 : Int32)) (v := (.long x0)) (by rw [e12]; exact Ar13.1) (State.isArrayOf_alike hZ.alike Ar13.2.1) Ar13.2.2 (own_hin S13 hi14) ha14 (g := (mkF m 54 #[.val (.ref b1), .val (.long y1), .second, .val (.int (2 : Int32))] [(.int (0 : Int32)), (.ref q1)])) rfl rfl (hb hby dA_54) _ ?_
    show Steps p.tables e below (T12.setTop (mkF m 55 #[.val (.ref b1), .val (.long y1), .second, .val (.int (2 : Int32))] [(.long x0)])) _
    refine XS.lloadN X12.here hx rfl (hb hby dA_55) rfl ?_
    show Steps p.tables e below (T12.setTop (mkF m 56 #[.val (.ref b1), .val (.long y1), .second, .val (.int (2 : Int32))] [(.long y1), (.long x0)])) _
    refine XS.lcmp X12.here hx rfl (hb hby dA_56) rfl ?_
    show Steps p.tables e below (T12.setTop (mkF m 57 #[.val (.ref b1), .val (.long y1), .second, .val (.int (2 : Int32))] [(.int (lcmpW x0 y1))])) _
    exact k
  by_cases hc57 : y1 < x0
  · obtain ⟨T15, X15, e15, st15⟩ := getF X12 hx hZ hown (host := "") (Or.inl (hw _ (List.mem_of_getElem? (i := 14) rfl))) Via.refl e12 F8 (g := (mkF m 61 #[.val (.ref b1), .val (.long y1), .second, .val (.int (2 : Int32))] [(.ref b1)])) rfl rfl (hb hby dA_61)
    obtain ⟨T16, X16, e16, st16⟩ := getF X15 hx hZ hown (host := "") (Or.inl (hw _ (List.mem_of_getElem? (i := 14) rfl))) Via.refl e15 F8 (g := (mkF m 66 #[.val (.ref b1), .val (.long y1), .second, .val (.int (2 : Int32))] [(.ref b1), (.int (2 : Int32)), (.ref q1)])) rfl rfl (hb hby dA_66)
    have hi17 : ¬ (0 : Int32) < 0 ∧ (0 : Int32).toNatClampNeg < (16 : Int32).toNatClampNeg := by decide
    have ha17 : cl13.slots[(0 : Int32).toNatClampNeg]? = some (.long x0) := H13 _ (by rw [S13]; exact hi17.2)
    obtain ⟨T18, h18, X18, e18, W18, st18⟩ := stJ X16 hx hZ e16 Ar13 (j := (2 : Int32)) (by rw [S13]; decide) (g := (mkF m 75 #[.val (.ref b1), .val (.long y1), .second, .val (.int (2 : Int32))] [(.long x0), (.int (2 : Int32)), (.ref q1)])) rfl rfl (hb hby dA_75)
    have N18 := Fr.snoc X18 N6 lo_q1
    obtain ⟨lc18, X18, N18⟩ := own_lc X18 N18
    have V19 : Arv Z h18 q1 k1 .long (16 : Int32) [(.long x0), (.long x1), (.long x0), (.long x3), (.long x4), (.long x5), (.long (0 : Int64)), (.long (0 : Int64)), (.long (0 : Int64)), (.long (0 : Int64)), (.long (0 : Int64)), (.long (0 : Int64)), (.long (0 : Int64)), (.long (0 : Int64)), (.long (0 : Int64)), (.long (0 : Int64))] (.long (0 : Int64)) := Arv.set Ar13 q13 S13 M13 H13 U13 rfl W18 2 rfl (by show 2 < 16; decide)
    have K18 := K6.wr W18 (Or.inl (List.mem_of_getElem? (i := 1) rfl))
    have F20 := F8.other W18 (Or.inl (Nat.ne_of_lt lt_q))
    have F21 := F7.other W18 (Or.inl (Nat.ne_of_lt lt_q))
    have E22 := E9.wr W18
    have Z18 : n0 ≤ h18.size := by rw [W18.size]; exact Z6
    have hc42_23 : ¬ ((0 : Int32) < (0 : Int32)) := (by decide)
    obtain ⟨T24, X24, e24, st24⟩ := getF X18 hx hZ hown (host := "") (Or.inl (hw _ (List.mem_of_getElem? (i := 14) rfl))) Via.refl e18 F20 (g := (mkF m 86 #[.val (.ref b1), .val (.long y1), .second, .val (.int (0 : Int32))] [(.ref b1)])) rfl rfl (hb hby dA_86)
    obtain ⟨cl25, Ar25, q25, S25, M25, H25, U25⟩ := id V19
    obtain ⟨T26, h26, X26, e26, W26, st26⟩ := stJ X24 hx hZ e24 Ar25 (j := (0 : Int32)) (by rw [S25]; decide) (g := (mkF m 91 #[.val (.ref b1), .val (.long y1), .second, .val (.int (0 : Int32))] [(.long y1), (.int (0 : Int32)), (.ref q1)])) rfl rfl (hb hby dA_91)
    have N26 := Fr.snoc X26 N18 lo_q1
    obtain ⟨lc26, X26, N26⟩ := own_lc X26 N26
    have V27 : Arv Z h26 q1 k1 .long (16 : Int32) [(.long y1), (.long x1), (.long x0), (.long x3), (.long x4), (.long x5), (.long (0 : Int64)), (.long (0 : Int64)), (.long (0 : Int64)), (.long (0 : Int64)), (.long (0 : Int64)), (.long (0 : Int64)), (.long (0 : Int64)), (.long (0 : Int64)), (.long (0 : Int64)), (.long (0 : Int64))] (.long (0 : Int64)) := Arv.set Ar25 q25 S25 M25 H25 U25 rfl W26 0 rfl (by show 0 < 16; decide)
    have K26 := K18.wr W26 (Or.inl (List.mem_of_getElem? (i := 1) rfl))
    have F28 := F20.other W26 (Or.inl (Nat.ne_of_lt lt_q))
    have F29 := F21.other W26 (Or.inl (Nat.ne_of_lt lt_q))
    have E30 := E22.wr W26
    have Z26 : n0 ≤ h26.size := by rw [W26.size]; exact Z18
    refine own_end X26 Bd.notSynchronized (v := none) (fun _ => rfl) (fun fs hr => ?_) e26 ?_ (by decide) (by decide)
    · show Steps p.tables e below (T12.setTop (mkF m 57 #[.val (.ref b1), .val (.long y1), .second, .val (.int (2 : Int32))] [(.int (lcmpW x0 y1))])) _
      refine XS.ifNo X12.here hx rfl (hb hby dA_57) rfl ((if0 _ _).trans (tlt ((lw_gt x0 y1).mpr hc57)).2.2.2) ?_
      show Steps p.tables e below (T12.setTop (mkF m 60 #[.val (.ref b1), .val (.long y1), .second, .val (.int (2 : Int32))] [])) _
      refine XS.aloadN X12.here hx rfl (hb hby dA_60) rfl rfl ?_
      show Steps p.tables e below (T12.setTop (mkF m 61 #[.val (.ref b1), .val (.long y1), .second, .val (.int (2 : Int32))] [(.ref b1)])) _
      refine st15 _ ?_
      show Steps p.tables e below (T15.setTop (mkF m 64 #[.val (.ref b1), .val (.long y1), .second, .val (.int (2 : Int32))] [(.ref q1)])) _
      refine XS.iloadN X15.here hx rfl (hb hby dA_64) rfl ?_
      show Steps p.tables e below (T15.setTop (mkF m 65 #[.val (.ref b1), .val (.long y1), .second, .val (.int (2 : Int32))] [(.int (2 : Int32)), (.ref q1)])) _
      refine XS.aloadN X15.here hx rfl (hb hby dA_65) rfl rfl ?_
      show Steps p.tables e below (T15.setTop (mkF m 66 #[.val (.ref b1), .val (.long y1), .second, .val (.int (2 : Int32))] [(.ref b1), (.int (2 : Int32)), (.ref q1)])) _
      refine st16 _ ?_
      show Steps p.tables e below (T16.setTop (mkF m 69 #[.val (.ref b1), .val (.long y1), .second, .val (.int (2 : Int32))] [(.ref q1), (.int (2 : Int32)), (.ref q1)])) _
      refine XS.iloadN X16.here hx rfl (hb hby dA_69) rfl ?_
      show Steps p.tables e below (T16.setTop (mkF m 70 #[.val (.ref b1), .val (.long y1), .second, .val (.int (2 : Int32))] [(.int (2 : Int32)), (.ref q1), (.int (2 : Int32)), (.ref q1)])) _
      refine XS.iconst X16.here hx rfl (hb hby dA_70) ?_
      show Steps p.tables e below (T16.setTop (mkF m 71 #[.val (.ref b1), .val (.long y1), .second, .val (.int (2 : Int32))] [(.int (1 : Int32)), (.int (2 : Int32)), (.ref q1), (.int (2 : Int32)), (.ref q1)])) _
      refine XS.isub X16.here hx rfl (hb hby dA_71) rfl ?_
      show Steps p.tables e below (T16.setTop (mkF m 72 #[.val (.ref b1), .val (.long y1), .second, .val (.int (2 : Int32))] [(.int (1 : Int32)), (.ref q1), (.int (2 : Int32)), (.ref q1)])) _
      refine XS.iconst X16.here hx rfl (hb hby dA_72) ?_
      show Steps p.tables e below (T16.setTop (mkF m 73 #[.val (.ref b1), .val (.long y1), .second, .val (.int (2 : Int32))] [(.int (1 : Int32)), (.int (1 : Int32)), (.ref q1), (.int (2 : Int32)), (.ref q1)])) _
      refine XS.iushr X16.here hx rfl (hb hby dA_73) rfl ?_
      show Steps p.tables e below (T16.setTop (mkF m 74 #[.val (.ref b1), .val (.long y1), .second, .val (.int (2 : Int32))] [(.int (0 : Int32)), (.ref q1), (.int (2 : Int32)), (.ref q1)])) _
      refine X16.laload hx (j := (0 : Int32)) (v := (.long x0)) (by rw [e16]; exact Ar13.1) (State.isArrayOf_alike hZ.alike Ar13.2.1) Ar13.2.2 (own_hin S13 hi17) ha17 (g := (mkF m 74 #[.val (.ref b1), .val (.long y1), .second, .val (.int (2 : Int32))] [(.int (0 : Int32)), (.ref q1), (.int (2 : Int32)), (.ref q1)])) rfl rfl (hb hby dA_74) _ ?_
      show Steps p.tables e below (T16.setTop (mkF m 75 #[.val (.ref b1), .val (.long y1), .second, .val (.int (2 : Int32))] [(.long x0), (.int (2 : Int32)), (.ref q1)])) _
      refine st18 _ ?_
      show Steps p.tables e below (T18.setTop (mkF m 76 #[.val (.ref b1), .val (.long y1), .second, .val (.int (2 : Int32))] [])) _
      refine XS.iloadN X18.here hx rfl (hb hby dA_76) rfl ?_
      show Steps p.tables e below (T18.setTop (mkF m 77 #[.val (.ref b1), .val (.long y1), .second, .val (.int (2 : Int32))] [(.int (2 : Int32))])) _
      refine XS.iconst X18.here hx rfl (hb hby dA_77) ?_
      show Steps p.tables e below (T18.setTop (mkF m 78 #[.val (.ref b1), .val (.long y1), .second, .val (.int (2 : Int32))] [(.int (1 : Int32)), (.int (2 : Int32))])) _
      refine XS.isub X18.here hx rfl (hb hby dA_78) rfl ?_
      show Steps p.tables e below (T18.setTop (mkF m 79 #[.val (.ref b1), .val (.long y1), .second, .val (.int (2 : Int32))] [(.int (1 : Int32))])) _
      refine XS.iconst X18.here hx rfl (hb hby dA_79) ?_
      show Steps p.tables e below (T18.setTop (mkF m 80 #[.val (.ref b1), .val (.long y1), .second, .val (.int (2 : Int32))] [(.int (1 : Int32)), (.int (1 : Int32))])) _
      refine XS.iushr X18.here hx rfl (hb hby dA_80) rfl ?_
      show Steps p.tables e below (T18.setTop (mkF m 81 #[.val (.ref b1), .val (.long y1), .second, .val (.int (2 : Int32))] [(.int (0 : Int32))])) _
      refine XS.istoreN X18.here hx rfl (hb hby dA_81) rfl (l' := #[.val (.ref b1), .val (.long y1), .second, .val (.int (0 : Int32))]) rfl ?_
      show Steps p.tables e below (T18.setTop (mkF m 82 #[.val (.ref b1), .val (.long y1), .second, .val (.int (0 : Int32))] [])) _
      refine XS.goto X18.here hx rfl (pc0 := 82) (pc' := 41) rfl (hb hby dA_82) (by decide) (by decide) ?_
      show Steps p.tables e below (T18.setTop (mkF m 41 #[.val (.ref b1), .val (.long y1), .second, .val (.int (0 : Int32))] [])) _
      refine XS.iloadN X18.here hx rfl (hb hby dA_41) rfl ?_
      show Steps p.tables e below (T18.setTop (mkF m 42 #[.val (.ref b1), .val (.long y1), .second, .val (.int (0 : Int32))] [(.int (0 : Int32))])) _
      refine XS.ifYes X18.here hx rfl (pc0 := 42) (pc' := 85) rfl (hb hby dA_42) rfl ((if0 _ _).trans (flt hc42_23).2.2.2) (by decide) (by decide) ?_
      show Steps p.tables e below (T18.setTop (mkF m 85 #[.val (.ref b1), .val (.long y1), .second, .val (.int (0 : Int32))] [])) _
      refine XS.aloadN X18.here hx rfl (hb hby dA_85) rfl rfl ?_
      show Steps p.tables e below (T18.setTop (mkF m 86 #[.val (.ref b1), .val (.long y1), .second, .val (.int (0 : Int32))] [(.ref b1)])) _
      refine st24 _ ?_
      show Steps p.tables e below (T24.setTop (mkF m 89 #[.val (.ref b1), .val (.long y1), .second, .val (.int (0 : Int32))] [(.ref q1)])) _
      refine XS.iloadN X24.here hx rfl (hb hby dA_89) rfl ?_
      show Steps p.tables e below (T24.setTop (mkF m 90 #[.val (.ref b1), .val (.long y1), .second, .val (.int (0 : Int32))] [(.int (0 : Int32)), (.ref q1)])) _
      refine XS.lloadN X24.here hx rfl (hb hby dA_90) rfl ?_
      show Steps p.tables e below (T24.setTop (mkF m 91 #[.val (.ref b1), .val (.long y1), .second, .val (.int (0 : Int32))] [(.long y1), (.int (0 : Int32)), (.ref q1)])) _
      refine st26 _ ?_
      show Steps p.tables e below (T26.setTop (mkF m 92 #[.val (.ref b1), .val (.long y1), .second, .val (.int (0 : Int32))] [])) _
      exact X26.returnOut hx Bd.returns (hb hby dA_92) hr
    · exact ⟨rfl, N26, K26, E30, F28, F29, _, _, _, _, _, _, by rw [own_add_2, if_pos hc57], V27⟩
  · obtain ⟨T31, X31, e31, st31⟩ := getF X12 hx hZ hown (host := "") (Or.inl (hw _ (List.mem_of_getElem? (i := 14) rfl))) Via.refl e12 F8 (g := (mkF m 86 #[.val (.ref b1), .val (.long y1), .second, .val (.int (2 : Int32))] [(.ref b1)])) rfl rfl (hb hby dA_86)
    obtain ⟨T32, h32, X32, e32, W32, st32⟩ := stJ X31 hx hZ e31 Ar13 (j := (2 : Int32)) (by rw [S13]; decide) (g := (mkF m 91 #[.val (.ref b1), .val (.long y1), .second, .val (.int (2 : Int32))] [(.long y1), (.int (2 : Int32)), (.ref q1)])) rfl rfl (hb hby dA_91)
    have N32 := Fr.snoc X32 N6 lo_q1
    obtain ⟨lc32, X32, N32⟩ := own_lc X32 N32
    have V33 : Arv Z h32 q1 k1 .long (16 : Int32) [(.long x0), (.long x1), (.long y1), (.long x3), (.long x4), (.long x5), (.long (0 : Int64)), (.long (0 : Int64)), (.long (0 : Int64)), (.long (0 : Int64)), (.long (0 : Int64)), (.long (0 : Int64)), (.long (0 : Int64)), (.long (0 : Int64)), (.long (0 : Int64)), (.long (0 : Int64))] (.long (0 : Int64)) := Arv.set Ar13 q13 S13 M13 H13 U13 rfl W32 2 rfl (by show 2 < 16; decide)
    have K32 := K6.wr W32 (Or.inl (List.mem_of_getElem? (i := 1) rfl))
    have F34 := F8.other W32 (Or.inl (Nat.ne_of_lt lt_q))
    have F35 := F7.other W32 (Or.inl (Nat.ne_of_lt lt_q))
    have E36 := E9.wr W32
    have Z32 : n0 ≤ h32.size := by rw [W32.size]; exact Z6
    refine own_end X32 Bd.notSynchronized (v := none) (fun _ => rfl) (fun fs hr => ?_) e32 ?_ (by decide) (by decide)
    · show Steps p.tables e below (T12.setTop (mkF m 57 #[.val (.ref b1), .val (.long y1), .second, .val (.int (2 : Int32))] [(.int (lcmpW x0 y1))])) _
      refine XS.ifYes X12.here hx rfl (pc0 := 57) (pc' := 85) rfl (hb hby dA_57) rfl ((if0 _ _).trans (flt (fun q => hc57 ((lw_gt x0 y1).mp q))).2.2.2) (by decide) (by decide) ?_
      show Steps p.tables e below (T12.setTop (mkF m 85 #[.val (.ref b1), .val (.long y1), .second, .val (.int (2 : Int32))] [])) _
      refine XS.aloadN X12.here hx rfl (hb hby dA_85) rfl rfl ?_
      show Steps p.tables e below (T12.setTop (mkF m 86 #[.val (.ref b1), .val (.long y1), .second, .val (.int (2 : Int32))] [(.ref b1)])) _
      refine st31 _ ?_
      show Steps p.tables e below (T31.setTop (mkF m 89 #[.val (.ref b1), .val (.long y1), .second, .val (.int (2 : Int32))] [(.ref q1)])) _
      refine XS.iloadN X31.here hx rfl (hb hby dA_89) rfl ?_
      show Steps p.tables e below (T31.setTop (mkF m 90 #[.val (.ref b1), .val (.long y1), .second, .val (.int (2 : Int32))] [(.int (2 : Int32)), (.ref q1)])) _
      refine XS.lloadN X31.here hx rfl (hb hby dA_90) rfl ?_
      show Steps p.tables e below (T31.setTop (mkF m 91 #[.val (.ref b1), .val (.long y1), .second, .val (.int (2 : Int32))] [(.long y1), (.int (2 : Int32)), (.ref q1)])) _
      refine st32 _ ?_
      show Steps p.tables e below (T32.setTop (mkF m 92 #[.val (.ref b1), .val (.long y1), .second, .val (.int (2 : Int32))] [])) _
      exact X32.returnOut hx Bd.returns (hb hby dA_92) hr
    · exact ⟨rfl, N32, K32, E36, F34, F35, _, _, _, _, _, _, by rw [own_add_2, if_neg hc57], V33⟩
def own_add_3 (x0 : Int64) (x1 : Int64) (x2 : Int64) (x3 : Int64) (x4 : Int64) (x5 : Int64) (y1 : Int64) : List Int64 :=
  if y1 < x1 then
    if y1 < x0 then
      [y1, x0, x2, x1, x4, x5]
    else
      [x0, y1, x2, x1, x4, x5]
  else
    [x0, x1, x2, y1, x4, x5]
theorem pn_a3 : plainName "com/example/kdata/kdata/LongHeap" = true := by first | (simp [plainName, overriddenIn]; done) | decide +kernel
theorem ef_a3 (m : MethodId) (x0 : Addr) (x1 : Int64) : entryFrame m #[(.ref x0), (.long x1)] 4 = mkF m 0 #[.val (.ref x0), .val (.long x1), .second, .unset] [] := by first | (simp [entryFrame, mkF, argsToLocals, Value.category]; done) | rfl
def Qa3 (Z : State) (b1 q1 : Addr) (k1 : ClassId) (x0 : Int64) (x1 : Int64) (x2 : Int64) (x3 : Int64) (x4 : Int64) (x5 : Int64) (y1 : Int64) (h0 : Heap) (n0 : Nat) (v : Option Value) (h : Heap) (L : List Loc) : Prop := v = none ∧ Fr n0 L ∧ Keep h0 h [b1, q1] ∧ Exa Z h b1 "com/example/kdata/kdata/LongHeap" ∧ Fld Z h b1 "com/example/kdata/kdata/LongHeap" "data" "[J" (.ref q1) ∧ Fld Z h b1 "com/example/kdata/kdata/LongHeap" "size" "I" (.int (4 : Int32)) ∧ ∃ z0 z1 z2 z3 z4 z5 : Int64, [z0, z1, z2, z3, z4, z5] = own_add_3 x0 x1 x2 x3 x4 x5 y1 ∧ Arv Z h q1 k1 .long (16 : Int32) [(.long z0), (.long z1), (.long z2), (.long z3), (.long z4), (.long z5), (.long (0 : Int64)), (.long (0 : Int64)), (.long (0 : Int64)), (.long (0 : Int64)), (.long (0 : Int64)), (.long (0 : Int64)), (.long (0 : Int64)), (.long (0 : Int64)), (.long (0 : Int64)), (.long (0 : Int64))] (.long (0 : Int64))
set_option maxRecDepth 65536 in
set_option maxHeartbeats 40000000 in
theorem rma3 (l : Launch) (Z : State) (a0 : Array Value) (hw : ∀ d ∈ tables_1, d.before a0 Z = true) (ws : List Jvm.Cond)  (b1 q1 : Addr) (k1 : ClassId) (x0 : Int64) (x1 : Int64) (x2 : Int64) (x3 : Int64) (x4 : Int64) (x5 : Int64) (y1 : Int64) (h0 : Heap) (n0 : Nat) (Z0 : n0 ≤ h0.size) (F_d : Fld Z h0 b1 "com/example/kdata/kdata/LongHeap" "data" "[J" (.ref q1)) (F_s : Fld Z h0 b1 "com/example/kdata/kdata/LongHeap" "size" "I" (.int (3 : Int32))) (E_b1 : Exa Z h0 b1 "com/example/kdata/kdata/LongHeap") (lo_b1 : n0 ≤ b1) (lo_q1 : n0 ≤ q1) (lt_q : b1 < q1) (V_q1 : Arv Z h0 q1 k1 .long (16 : Int32) [(.long x0), (.long x1), (.long x2), (.long x3), (.long x4), (.long x5), (.long (0 : Int64)), (.long (0 : Int64)), (.long (0 : Int64)), (.long (0 : Int64)), (.long (0 : Int64)), (.long (0 : Int64)), (.long (0 : Int64)), (.long (0 : Int64)), (.long (0 : Int64)), (.long (0 : Int64))] (.long (0 : Int64))) :
    MetFree l (⟨"com/example/kdata/kdata/LongHeap", "add", "(J)V"⟩ : MethodName) (head1 (Jvm.Cond.code (⟨"com/example/kdata/kdata/LongHeap", "add", "(J)V"⟩ : MethodName) prog_81_method_3_code 4 none :: ws) ({ frames := 0, cells := 0, slots := 0, locals := 0 } : Room)) (fun a U => a = #[(.ref b1), (.long y1)] ∧ Z.Warmed39 U.vm ∧ U.heap = h0) (fun _ _ _ _ _ => True) (fun _ U o U' => ∃ v L, o = .returned v ∧ Qa3 Z b1 q1 k1 x0 x1 x2 x3 x4 x5 y1 h0 n0 v U'.heap L ∧ FrameEnd U o U' L ({ frames := 0, cells := 0, slots := 0, locals := 0 } : Room).cells ({ frames := 0, cells := 0, slots := 0, locals := 0 } : Room).slots) := by
  refine MetFree.of_bodySF (plainFor_of_name pn_a3) hisR ?_
  intro p e s m args below meth c s₁ Bd hml0 hP hK
  obtain ⟨rfl, hZ, hh⟩ := hP
  have hx := Bd.exec
  have hby := Bd.bytes
  have hml : c.maxLocals = 4 := hml0
  have hown : s.vm.findClass "com/example/kdata/kdata/LongHeap" = some m.cls := findClass_of_methodNamed Bd.named
  have hnm := (name_of_methodNamed Bd.named Bd.method).1
  have X0 : Stand p l e ({ frames := 0, cells := 0, slots := 0, locals := 0 } : Room) s m #[(.ref b1), (.long y1)] below meth c s₁ [] 0 0 := Stand.of_body Bd
  have e0 : s₁.heap = h0 := by rw [← hh, Bd.state]; rfl
  have N0 := Fr.nil n0
  show own_Go p e below s (Qa3 Z b1 q1 k1 x0 x1 x2 x3 x4 x5 y1 h0 n0) ({ frames := 0, cells := 0, slots := 0, locals := 0 } : Room).cells ({ frames := 0, cells := 0, slots := 0, locals := 0 } : Room).slots (s₁.setTop (entryFrame m #[(.ref b1), (.long y1)] 4))
  refine own_go (b := s₁.setTop (mkF m 0 #[.val (.ref b1), .val (.long y1), .second, .unset] [])) (fun t k => castTop (ef_a3 m b1 y1) k) ?_
  have K0 := Keep.refl h0 [b1, q1]
  obtain ⟨T1, X1, e1, st1⟩ := getF X0 hx hZ hown (host := "") (Or.inl (hw _ (List.mem_of_getElem? (i := 21) rfl))) Via.refl e0 F_s (g := (mkF m 1 #[.val (.ref b1), .val (.long y1), .second, .unset] [(.ref b1)])) rfl rfl (hb hby dA_1)
  obtain ⟨T2, X2, e2, st2⟩ := getF X1 hx hZ hown (host := "") (Or.inl (hw _ (List.mem_of_getElem? (i := 14) rfl))) Via.refl e1 F_d (g := (mkF m 5 #[.val (.ref b1), .val (.long y1), .second, .unset] [(.ref b1), (.int (3 : Int32))])) rfl rfl (hb hby dA_5)
  obtain ⟨cl3, Ar3, q3, S3, M3, H3, U3⟩ := id V_q1
  have hc9_4 : ¬ ((3 : Int32) = (16 : Int32)) := (by decide)
  obtain ⟨T5, X5, e5, st5⟩ := getF X2 hx hZ hown (host := "") (Or.inl (hw _ (List.mem_of_getElem? (i := 21) rfl))) Via.refl e2 F_s (g := (mkF m 31 #[.val (.ref b1), .val (.long y1), .second, .unset] [(.ref b1), (.ref b1)])) rfl rfl (hb hby dA_31)
  obtain ⟨T6, h6, X6, e6, W6, st6⟩ := putF X5 hx hZ hown (host := "") (Or.inl (hw _ (List.mem_of_getElem? (i := 21) rfl))) Via.refl e5 F_s E_b1 (Or.inl (hw _ (List.mem_of_getElem? (i := 22) rfl))) (hw _ (List.mem_of_getElem? (i := 6) rfl)) (ty := .int) (by decide) rfl rfl (g := (mkF m 37 #[.val (.ref b1), .val (.long y1), .second, .unset] [(.int (4 : Int32)), (.ref b1), (.int (3 : Int32))])) rfl rfl (hb hby dA_37)
  have N6 := Fr.snoc X6 N0 lo_b1
  obtain ⟨lc6, X6, N6⟩ := own_lc X6 N6
  have K6 := K0.wr W6 (Or.inl (List.mem_of_getElem? (i := 0) rfl))
  have F7 : Fld Z h6 b1 "com/example/kdata/kdata/LongHeap" "size" "I" (.int (4 : Int32)) := F_s.same W6
  have F8 := F_d.other W6 (Or.inr (slot_ne (Or.inl (hw _ (List.mem_of_getElem? (i := 15) rfl))) (Or.inl (hw _ (List.mem_of_getElem? (i := 22) rfl))) (by decide) (t := (.array .long)) (t' := .int) (by decide) (by decide)))
  have E9 := E_b1.wr W6
  have V10 := V_q1.other W6 (Nat.ne_of_gt lt_q)
  have Z6 : n0 ≤ h6.size := by rw [W6.size]; exact Z0
  have hc42_11 : (0 : Int32) < (3 : Int32) := (by decide)
  obtain ⟨T12, X12, e12, st12⟩ := getF X6 hx hZ hown (host := "") (Or.inl (hw _ (List.mem_of_getElem? (i := 14) rfl))) Via.refl e6 F8 (g := (mkF m 46 #[.val (.ref b1), .val (.long y1), .second, .val (.int (3 : Int32))] [(.ref b1)])) rfl rfl (hb hby dA_46)
  obtain ⟨cl13, Ar13, q13, S13, M13, H13, U13⟩ := id V10
  have hi14 : ¬ (1 : Int32) < 0 ∧ (1 : Int32).toNatClampNeg < (16 : Int32).toNatClampNeg := by decide
  have ha14 : cl13.slots[(1 : Int32).toNatClampNeg]? = some (.long x1) := H13 _ (by rw [S13]; exact hi14.2)
  refine own_go (b := T12.setTop (mkF m 57 #[.val (.ref b1), .val (.long y1), .second, .val (.int (3 : Int32))] [(.int (lcmpW x1 y1))])) (fun t k => ?_) ?_
  · show Steps p.tables e below (s₁.setTop (mkF m 0 #[.val (.ref b1), .val (.long y1), .second, .unset] [])) _
    refine XS.aloadN X0.here hx rfl (hb hby dA_0) rfl rfl ?_
    show Steps p.tables e below (s₁.setTop (mkF m 1 #[.val (.ref b1), .val (.long y1), .second, .unset] [(.ref b1)])) _
    refine st1 _ ?_
    show Steps p.tables e below (T1.setTop (mkF m 4 #[.val (.ref b1), .val (.long y1), .second, .unset] [(.int (3 : Int32))])) _
    refine XS.aloadN X1.here hx rfl (hb hby dA_4) rfl rfl ?_
    show Steps p.tables e below (T1.setTop (mkF m 5 #[.val (.ref b1), .val (.long y1), .second, .unset] [(.ref b1), (.int (3 : Int32))])) _
    refine st2 _ ?_
    show Steps p.tables e below (T2.setTop (mkF m 8 #[.val (.ref b1), .val (.long y1), .second, .unset] [(.ref q1), (.int (3 : Int32))])) _
    refine X2.arraylength hx (cell := cl3) (by rw [e2]; exact Ar3.1) (State.isArrayOf_alike hZ.alike Ar3.2.1) (g := (mkF m 8 #[.val (.ref b1), .val (.long y1), .second, .unset] [(.ref q1), (.int (3 : Int32))])) rfl (rest := [(.int (3 : Int32))]) rfl (hb hby dA_8) _ ?_
    rw [len_of S3 M3]
    show Steps p.tables e below (T2.setTop (mkF m 9 #[.val (.ref b1), .val (.long y1), .second, .unset] [(.int (16 : Int32)), (.int (3 : Int32))])) _
    refine XS.icmpYes X2.here hx rfl (pc0 := 9) (pc' := 29) rfl (hb hby dA_9) rfl (feq hc9_4).2 (by decide) (by decide) ?_
    show Steps p.tables e below (T2.setTop (mkF m 29 #[.val (.ref b1), .val (.long y1), .second, .unset] [])) _
    refine XS.aloadN X2.here hx rfl (hb hby dA_29) rfl rfl ?_
    show Steps p.tables e below (T2.setTop (mkF m 30 #[.val (.ref b1), .val (.long y1), .second, .unset] [(.ref b1)])) _
    refine XS.dup X2.here hx rfl (hb hby dA_30) rfl rfl ?_
    show Steps p.tables e below (T2.setTop (mkF m 31 #[.val (.ref b1), .val (.long y1), .second, .unset] [(.ref b1), (.ref b1)])) _
    refine st5 _ ?_
    show Steps p.tables e below (T5.setTop (mkF m 34 #[.val (.ref b1), .val (.long y1), .second, .unset] [(.int (3 : Int32)), (.ref b1)])) _
    refine XS.dupX1 X5.here hx rfl (hb hby dA_34) rfl rfl rfl ?_
    show Steps p.tables e below (T5.setTop (mkF m 35 #[.val (.ref b1), .val (.long y1), .second, .unset] [(.int (3 : Int32)), (.ref b1), (.int (3 : Int32))])) _
    refine XS.iconst X5.here hx rfl (hb hby dA_35) ?_
    show Steps p.tables e below (T5.setTop (mkF m 36 #[.val (.ref b1), .val (.long y1), .second, .unset] [(.int (1 : Int32)), (.int (3 : Int32)), (.ref b1), (.int (3 : Int32))])) _
    refine XS.iadd X5.here hx rfl (hb hby dA_36) rfl ?_
    show Steps p.tables e below (T5.setTop (mkF m 37 #[.val (.ref b1), .val (.long y1), .second, .unset] [(.int (4 : Int32)), (.ref b1), (.int (3 : Int32))])) _
    refine st6 _ ?_
    show Steps p.tables e below (T6.setTop (mkF m 40 #[.val (.ref b1), .val (.long y1), .second, .unset] [(.int (3 : Int32))])) _
    refine XS.istoreN X6.here hx rfl (hb hby dA_40) rfl (l' := #[.val (.ref b1), .val (.long y1), .second, .val (.int (3 : Int32))]) rfl ?_
    show Steps p.tables e below (T6.setTop (mkF m 41 #[.val (.ref b1), .val (.long y1), .second, .val (.int (3 : Int32))] [])) _
    refine XS.iloadN X6.here hx rfl (hb hby dA_41) rfl ?_
    show Steps p.tables e below (T6.setTop (mkF m 42 #[.val (.ref b1), .val (.long y1), .second, .val (.int (3 : Int32))] [(.int (3 : Int32))])) _
    refine XS.ifNo X6.here hx rfl (hb hby dA_42) rfl ((if0 _ _).trans (tlt hc42_11).2.2.2) ?_
    show Steps p.tables e below (T6.setTop (mkF m 45 #[.val (.ref b1), .val (.long y1), .second, .val (.int (3 : Int32))] [])) _
    refine XS.aloadN X6.here hx rfl (hb hby dA_45) rfl rfl ?_
    show Steps p.tables e below (T6.setTop (mkF m 46 #[.val (.ref b1), .val (.long y1), .second, .val (.int (3 : Int32))] [(.ref b1)])) _
    refine st12 _ ?_
    show Steps p.tables e below (T12.setTop (mkF m 49 #[.val (.ref b1), .val (.long y1), .second, .val (.int (3 : Int32))] [(.ref q1)])) _
    refine XS.iloadN X12.here hx rfl (hb hby dA_49) rfl ?_
    show Steps p.tables e below (T12.setTop (mkF m 50 #[.val (.ref b1), .val (.long y1), .second, .val (.int (3 : Int32))] [(.int (3 : Int32)), (.ref q1)])) _
    refine XS.iconst X12.here hx rfl (hb hby dA_50) ?_
    show Steps p.tables e below (T12.setTop (mkF m 51 #[.val (.ref b1), .val (.long y1), .second, .val (.int (3 : Int32))] [(.int (1 : Int32)), (.int (3 : Int32)), (.ref q1)])) _
    refine XS.isub X12.here hx rfl (hb hby dA_51) rfl ?_
    show Steps p.tables e below (T12.setTop (mkF m 52 #[.val (.ref b1), .val (.long y1), .second, .val (.int (3 : Int32))] [(.int (2 : Int32)), (.ref q1)])) _
    refine XS.iconst X12.here hx rfl (hb hby dA_52) ?_
    show Steps p.tables e below (T12.setTop (mkF m 53 #[.val (.ref b1), .val (.long y1), .second, .val (.int (3 : Int32))] [(.int (1 : Int32)), (.int (2 : Int32)), (.ref q1)])) _
    refine XS.iushr X12.here hx rfl (hb hby dA_53) rfl ?_
    show Steps p.tables e below (T12.setTop (mkF m 54 #[.val (.ref b1), .val (.long y1), .second, .val (.int (3 : Int32))] [(.int (1 : Int32)), (.ref q1)])) _
    refine X12.laload hx (j := (1 : Int32)) (v := (.long x1)) (by rw [e12]; exact Ar13.1) (State.isArrayOf_alike hZ.alike Ar13.2.1) Ar13.2.2 (own_hin S13 hi14) ha14 (g := (mkF m 54 #[.val (.ref b1), .val (.long y1), .second, .val (.int (3 : Int32))] [(.int (1 : Int32)), (.ref q1)])) rfl rfl (hb hby dA_54) _ ?_
    show Steps p.tables e below (T12.setTop (mkF m 55 #[.val (.ref b1), .val (.long y1), .second, .val (.int (3 : Int32))] [(.long x1)])) _
    refine XS.lloadN X12.here hx rfl (hb hby dA_55) rfl ?_
    show Steps p.tables e below (T12.setTop (mkF m 56 #[.val (.ref b1), .val (.long y1), .second, .val (.int (3 : Int32))] [(.long y1), (.long x1)])) _
    refine XS.lcmp X12.here hx rfl (hb hby dA_56) rfl ?_
    show Steps p.tables e below (T12.setTop (mkF m 57 #[.val (.ref b1), .val (.long y1), .second, .val (.int (3 : Int32))] [(.int (lcmpW x1 y1))])) _
    exact k
  by_cases hc57 : y1 < x1
  · obtain ⟨T15, X15, e15, st15⟩ := getF X12 hx hZ hown (host := "") (Or.inl (hw _ (List.mem_of_getElem? (i := 14) rfl))) Via.refl e12 F8 (g := (mkF m 61 #[.val (.ref b1), .val (.long y1), .second, .val (.int (3 : Int32))] [(.ref b1)])) rfl rfl (hb hby dA_61)
    obtain ⟨T16, X16, e16, st16⟩ := getF X15 hx hZ hown (host := "") (Or.inl (hw _ (List.mem_of_getElem? (i := 14) rfl))) Via.refl e15 F8 (g := (mkF m 66 #[.val (.ref b1), .val (.long y1), .second, .val (.int (3 : Int32))] [(.ref b1), (.int (3 : Int32)), (.ref q1)])) rfl rfl (hb hby dA_66)
    have hi17 : ¬ (1 : Int32) < 0 ∧ (1 : Int32).toNatClampNeg < (16 : Int32).toNatClampNeg := by decide
    have ha17 : cl13.slots[(1 : Int32).toNatClampNeg]? = some (.long x1) := H13 _ (by rw [S13]; exact hi17.2)
    obtain ⟨T18, h18, X18, e18, W18, st18⟩ := stJ X16 hx hZ e16 Ar13 (j := (3 : Int32)) (by rw [S13]; decide) (g := (mkF m 75 #[.val (.ref b1), .val (.long y1), .second, .val (.int (3 : Int32))] [(.long x1), (.int (3 : Int32)), (.ref q1)])) rfl rfl (hb hby dA_75)
    have N18 := Fr.snoc X18 N6 lo_q1
    obtain ⟨lc18, X18, N18⟩ := own_lc X18 N18
    have V19 : Arv Z h18 q1 k1 .long (16 : Int32) [(.long x0), (.long x1), (.long x2), (.long x1), (.long x4), (.long x5), (.long (0 : Int64)), (.long (0 : Int64)), (.long (0 : Int64)), (.long (0 : Int64)), (.long (0 : Int64)), (.long (0 : Int64)), (.long (0 : Int64)), (.long (0 : Int64)), (.long (0 : Int64)), (.long (0 : Int64))] (.long (0 : Int64)) := Arv.set Ar13 q13 S13 M13 H13 U13 rfl W18 3 rfl (by show 3 < 16; decide)
    have K18 := K6.wr W18 (Or.inl (List.mem_of_getElem? (i := 1) rfl))
    have F20 := F8.other W18 (Or.inl (Nat.ne_of_lt lt_q))
    have F21 := F7.other W18 (Or.inl (Nat.ne_of_lt lt_q))
    have E22 := E9.wr W18
    have Z18 : n0 ≤ h18.size := by rw [W18.size]; exact Z6
    have hc42_23 : (0 : Int32) < (1 : Int32) := (by decide)
    obtain ⟨T24, X24, e24, st24⟩ := getF X18 hx hZ hown (host := "") (Or.inl (hw _ (List.mem_of_getElem? (i := 14) rfl))) Via.refl e18 F20 (g := (mkF m 46 #[.val (.ref b1), .val (.long y1), .second, .val (.int (1 : Int32))] [(.ref b1)])) rfl rfl (hb hby dA_46)
    obtain ⟨cl25, Ar25, q25, S25, M25, H25, U25⟩ := id V19
    have hi26 : ¬ (0 : Int32) < 0 ∧ (0 : Int32).toNatClampNeg < (16 : Int32).toNatClampNeg := by decide
    have ha26 : cl25.slots[(0 : Int32).toNatClampNeg]? = some (.long x0) := H25 _ (by rw [S25]; exact hi26.2)
    refine own_go (b := T24.setTop (mkF m 57 #[.val (.ref b1), .val (.long y1), .second, .val (.int (1 : Int32))] [(.int (lcmpW x0 y1))])) (fun t k => ?_) ?_
    · show Steps p.tables e below (T12.setTop (mkF m 57 #[.val (.ref b1), .val (.long y1), .second, .val (.int (3 : Int32))] [(.int (lcmpW x1 y1))])) _
      refine XS.ifNo X12.here hx rfl (hb hby dA_57) rfl ((if0 _ _).trans (tlt ((lw_gt x1 y1).mpr hc57)).2.2.2) ?_
      show Steps p.tables e below (T12.setTop (mkF m 60 #[.val (.ref b1), .val (.long y1), .second, .val (.int (3 : Int32))] [])) _
      refine XS.aloadN X12.here hx rfl (hb hby dA_60) rfl rfl ?_
      show Steps p.tables e below (T12.setTop (mkF m 61 #[.val (.ref b1), .val (.long y1), .second, .val (.int (3 : Int32))] [(.ref b1)])) _
      refine st15 _ ?_
      show Steps p.tables e below (T15.setTop (mkF m 64 #[.val (.ref b1), .val (.long y1), .second, .val (.int (3 : Int32))] [(.ref q1)])) _
      refine XS.iloadN X15.here hx rfl (hb hby dA_64) rfl ?_
      show Steps p.tables e below (T15.setTop (mkF m 65 #[.val (.ref b1), .val (.long y1), .second, .val (.int (3 : Int32))] [(.int (3 : Int32)), (.ref q1)])) _
      refine XS.aloadN X15.here hx rfl (hb hby dA_65) rfl rfl ?_
      show Steps p.tables e below (T15.setTop (mkF m 66 #[.val (.ref b1), .val (.long y1), .second, .val (.int (3 : Int32))] [(.ref b1), (.int (3 : Int32)), (.ref q1)])) _
      refine st16 _ ?_
      show Steps p.tables e below (T16.setTop (mkF m 69 #[.val (.ref b1), .val (.long y1), .second, .val (.int (3 : Int32))] [(.ref q1), (.int (3 : Int32)), (.ref q1)])) _
      refine XS.iloadN X16.here hx rfl (hb hby dA_69) rfl ?_
      show Steps p.tables e below (T16.setTop (mkF m 70 #[.val (.ref b1), .val (.long y1), .second, .val (.int (3 : Int32))] [(.int (3 : Int32)), (.ref q1), (.int (3 : Int32)), (.ref q1)])) _
      refine XS.iconst X16.here hx rfl (hb hby dA_70) ?_
      show Steps p.tables e below (T16.setTop (mkF m 71 #[.val (.ref b1), .val (.long y1), .second, .val (.int (3 : Int32))] [(.int (1 : Int32)), (.int (3 : Int32)), (.ref q1), (.int (3 : Int32)), (.ref q1)])) _
      refine XS.isub X16.here hx rfl (hb hby dA_71) rfl ?_
      show Steps p.tables e below (T16.setTop (mkF m 72 #[.val (.ref b1), .val (.long y1), .second, .val (.int (3 : Int32))] [(.int (2 : Int32)), (.ref q1), (.int (3 : Int32)), (.ref q1)])) _
      refine XS.iconst X16.here hx rfl (hb hby dA_72) ?_
      show Steps p.tables e below (T16.setTop (mkF m 73 #[.val (.ref b1), .val (.long y1), .second, .val (.int (3 : Int32))] [(.int (1 : Int32)), (.int (2 : Int32)), (.ref q1), (.int (3 : Int32)), (.ref q1)])) _
      refine XS.iushr X16.here hx rfl (hb hby dA_73) rfl ?_
      show Steps p.tables e below (T16.setTop (mkF m 74 #[.val (.ref b1), .val (.long y1), .second, .val (.int (3 : Int32))] [(.int (1 : Int32)), (.ref q1), (.int (3 : Int32)), (.ref q1)])) _
      refine X16.laload hx (j := (1 : Int32)) (v := (.long x1)) (by rw [e16]; exact Ar13.1) (State.isArrayOf_alike hZ.alike Ar13.2.1) Ar13.2.2 (own_hin S13 hi17) ha17 (g := (mkF m 74 #[.val (.ref b1), .val (.long y1), .second, .val (.int (3 : Int32))] [(.int (1 : Int32)), (.ref q1), (.int (3 : Int32)), (.ref q1)])) rfl rfl (hb hby dA_74) _ ?_
      show Steps p.tables e below (T16.setTop (mkF m 75 #[.val (.ref b1), .val (.long y1), .second, .val (.int (3 : Int32))] [(.long x1), (.int (3 : Int32)), (.ref q1)])) _
      refine st18 _ ?_
      show Steps p.tables e below (T18.setTop (mkF m 76 #[.val (.ref b1), .val (.long y1), .second, .val (.int (3 : Int32))] [])) _
      refine XS.iloadN X18.here hx rfl (hb hby dA_76) rfl ?_
      show Steps p.tables e below (T18.setTop (mkF m 77 #[.val (.ref b1), .val (.long y1), .second, .val (.int (3 : Int32))] [(.int (3 : Int32))])) _
      refine XS.iconst X18.here hx rfl (hb hby dA_77) ?_
      show Steps p.tables e below (T18.setTop (mkF m 78 #[.val (.ref b1), .val (.long y1), .second, .val (.int (3 : Int32))] [(.int (1 : Int32)), (.int (3 : Int32))])) _
      refine XS.isub X18.here hx rfl (hb hby dA_78) rfl ?_
      show Steps p.tables e below (T18.setTop (mkF m 79 #[.val (.ref b1), .val (.long y1), .second, .val (.int (3 : Int32))] [(.int (2 : Int32))])) _
      refine XS.iconst X18.here hx rfl (hb hby dA_79) ?_
      show Steps p.tables e below (T18.setTop (mkF m 80 #[.val (.ref b1), .val (.long y1), .second, .val (.int (3 : Int32))] [(.int (1 : Int32)), (.int (2 : Int32))])) _
      refine XS.iushr X18.here hx rfl (hb hby dA_80) rfl ?_
      show Steps p.tables e below (T18.setTop (mkF m 81 #[.val (.ref b1), .val (.long y1), .second, .val (.int (3 : Int32))] [(.int (1 : Int32))])) _
      refine XS.istoreN X18.here hx rfl (hb hby dA_81) rfl (l' := #[.val (.ref b1), .val (.long y1), .second, .val (.int (1 : Int32))]) rfl ?_
      show Steps p.tables e below (T18.setTop (mkF m 82 #[.val (.ref b1), .val (.long y1), .second, .val (.int (1 : Int32))] [])) _
      refine XS.goto X18.here hx rfl (pc0 := 82) (pc' := 41) rfl (hb hby dA_82) (by decide) (by decide) ?_
      show Steps p.tables e below (T18.setTop (mkF m 41 #[.val (.ref b1), .val (.long y1), .second, .val (.int (1 : Int32))] [])) _
      refine XS.iloadN X18.here hx rfl (hb hby dA_41) rfl ?_
      show Steps p.tables e below (T18.setTop (mkF m 42 #[.val (.ref b1), .val (.long y1), .second, .val (.int (1 : Int32))] [(.int (1 : Int32))])) _
      refine XS.ifNo X18.here hx rfl (hb hby dA_42) rfl ((if0 _ _).trans (tlt hc42_23).2.2.2) ?_
      show Steps p.tables e below (T18.setTop (mkF m 45 #[.val (.ref b1), .val (.long y1), .second, .val (.int (1 : Int32))] [])) _
      refine XS.aloadN X18.here hx rfl (hb hby dA_45) rfl rfl ?_
      show Steps p.tables e below (T18.setTop (mkF m 46 #[.val (.ref b1), .val (.long y1), .second, .val (.int (1 : Int32))] [(.ref b1)])) _
      refine st24 _ ?_
      show Steps p.tables e below (T24.setTop (mkF m 49 #[.val (.ref b1), .val (.long y1), .second, .val (.int (1 : Int32))] [(.ref q1)])) _
      refine XS.iloadN X24.here hx rfl (hb hby dA_49) rfl ?_
      show Steps p.tables e below (T24.setTop (mkF m 50 #[.val (.ref b1), .val (.long y1), .second, .val (.int (1 : Int32))] [(.int (1 : Int32)), (.ref q1)])) _
      refine XS.iconst X24.here hx rfl (hb hby dA_50) ?_
      show Steps p.tables e below (T24.setTop (mkF m 51 #[.val (.ref b1), .val (.long y1), .second, .val (.int (1 : Int32))] [(.int (1 : Int32)), (.int (1 : Int32)), (.ref q1)])) _
      refine XS.isub X24.here hx rfl (hb hby dA_51) rfl ?_
      show Steps p.tables e below (T24.setTop (mkF m 52 #[.val (.ref b1), .val (.long y1), .second, .val (.int (1 : Int32))] [(.int (0 : Int32)), (.ref q1)])) _
      refine XS.iconst X24.here hx rfl (hb hby dA_52) ?_
      show Steps p.tables e below (T24.setTop (mkF m 53 #[.val (.ref b1), .val (.long y1), .second, .val (.int (1 : Int32))] [(.int (1 : Int32)), (.int (0 : Int32)), (.ref q1)])) _
      refine XS.iushr X24.here hx rfl (hb hby dA_53) rfl ?_
      show Steps p.tables e below (T24.setTop (mkF m 54 #[.val (.ref b1), .val (.long y1), .second, .val (.int (1 : Int32))] [(.int (0 : Int32)), (.ref q1)])) _
      refine X24.laload hx (j := (0 : Int32)) (v := (.long x0)) (by rw [e24]; exact Ar25.1) (State.isArrayOf_alike hZ.alike Ar25.2.1) Ar25.2.2 (own_hin S25 hi26) ha26 (g := (mkF m 54 #[.val (.ref b1), .val (.long y1), .second, .val (.int (1 : Int32))] [(.int (0 : Int32)), (.ref q1)])) rfl rfl (hb hby dA_54) _ ?_
      show Steps p.tables e below (T24.setTop (mkF m 55 #[.val (.ref b1), .val (.long y1), .second, .val (.int (1 : Int32))] [(.long x0)])) _
      refine XS.lloadN X24.here hx rfl (hb hby dA_55) rfl ?_
      show Steps p.tables e below (T24.setTop (mkF m 56 #[.val (.ref b1), .val (.long y1), .second, .val (.int (1 : Int32))] [(.long y1), (.long x0)])) _
      refine XS.lcmp X24.here hx rfl (hb hby dA_56) rfl ?_
      show Steps p.tables e below (T24.setTop (mkF m 57 #[.val (.ref b1), .val (.long y1), .second, .val (.int (1 : Int32))] [(.int (lcmpW x0 y1))])) _
      exact k
    by_cases hc57x : y1 < x0
    · obtain ⟨T27, X27, e27, st27⟩ := getF X24 hx hZ hown (host := "") (Or.inl (hw _ (List.mem_of_getElem? (i := 14) rfl))) Via.refl e24 F20 (g := (mkF m 61 #[.val (.ref b1), .val (.long y1), .second, .val (.int (1 : Int32))] [(.ref b1)])) rfl rfl (hb hby dA_61)
      obtain ⟨T28, X28, e28, st28⟩ := getF X27 hx hZ hown (host := "") (Or.inl (hw _ (List.mem_of_getElem? (i := 14) rfl))) Via.refl e27 F20 (g := (mkF m 66 #[.val (.ref b1), .val (.long y1), .second, .val (.int (1 : Int32))] [(.ref b1), (.int (1 : Int32)), (.ref q1)])) rfl rfl (hb hby dA_66)
      have hi29 : ¬ (0 : Int32) < 0 ∧ (0 : Int32).toNatClampNeg < (16 : Int32).toNatClampNeg := by decide
      have ha29 : cl25.slots[(0 : Int32).toNatClampNeg]? = some (.long x0) := H25 _ (by rw [S25]; exact hi29.2)
      obtain ⟨T30, h30, X30, e30, W30, st30⟩ := stJ X28 hx hZ e28 Ar25 (j := (1 : Int32)) (by rw [S25]; decide) (g := (mkF m 75 #[.val (.ref b1), .val (.long y1), .second, .val (.int (1 : Int32))] [(.long x0), (.int (1 : Int32)), (.ref q1)])) rfl rfl (hb hby dA_75)
      have N30 := Fr.snoc X30 N18 lo_q1
      obtain ⟨lc30, X30, N30⟩ := own_lc X30 N30
      have V31 : Arv Z h30 q1 k1 .long (16 : Int32) [(.long x0), (.long x0), (.long x2), (.long x1), (.long x4), (.long x5), (.long (0 : Int64)), (.long (0 : Int64)), (.long (0 : Int64)), (.long (0 : Int64)), (.long (0 : Int64)), (.long (0 : Int64)), (.long (0 : Int64)), (.long (0 : Int64)), (.long (0 : Int64)), (.long (0 : Int64))] (.long (0 : Int64)) := Arv.set Ar25 q25 S25 M25 H25 U25 rfl W30 1 rfl (by show 1 < 16; decide)
      have K30 := K18.wr W30 (Or.inl (List.mem_of_getElem? (i := 1) rfl))
      have F32 := F20.other W30 (Or.inl (Nat.ne_of_lt lt_q))
      have F33 := F21.other W30 (Or.inl (Nat.ne_of_lt lt_q))
      have E34 := E22.wr W30
      have Z30 : n0 ≤ h30.size := by rw [W30.size]; exact Z18
      have hc42_35 : ¬ ((0 : Int32) < (0 : Int32)) := (by decide)
      obtain ⟨T36, X36, e36, st36⟩ := getF X30 hx hZ hown (host := "") (Or.inl (hw _ (List.mem_of_getElem? (i := 14) rfl))) Via.refl e30 F32 (g := (mkF m 86 #[.val (.ref b1), .val (.long y1), .second, .val (.int (0 : Int32))] [(.ref b1)])) rfl rfl (hb hby dA_86)
      obtain ⟨cl37, Ar37, q37, S37, M37, H37, U37⟩ := id V31
      obtain ⟨T38, h38, X38, e38, W38, st38⟩ := stJ X36 hx hZ e36 Ar37 (j := (0 : Int32)) (by rw [S37]; decide) (g := (mkF m 91 #[.val (.ref b1), .val (.long y1), .second, .val (.int (0 : Int32))] [(.long y1), (.int (0 : Int32)), (.ref q1)])) rfl rfl (hb hby dA_91)
      have N38 := Fr.snoc X38 N30 lo_q1
      obtain ⟨lc38, X38, N38⟩ := own_lc X38 N38
      have V39 : Arv Z h38 q1 k1 .long (16 : Int32) [(.long y1), (.long x0), (.long x2), (.long x1), (.long x4), (.long x5), (.long (0 : Int64)), (.long (0 : Int64)), (.long (0 : Int64)), (.long (0 : Int64)), (.long (0 : Int64)), (.long (0 : Int64)), (.long (0 : Int64)), (.long (0 : Int64)), (.long (0 : Int64)), (.long (0 : Int64))] (.long (0 : Int64)) := Arv.set Ar37 q37 S37 M37 H37 U37 rfl W38 0 rfl (by show 0 < 16; decide)
      have K38 := K30.wr W38 (Or.inl (List.mem_of_getElem? (i := 1) rfl))
      have F40 := F32.other W38 (Or.inl (Nat.ne_of_lt lt_q))
      have F41 := F33.other W38 (Or.inl (Nat.ne_of_lt lt_q))
      have E42 := E34.wr W38
      have Z38 : n0 ≤ h38.size := by rw [W38.size]; exact Z30
      refine own_end X38 Bd.notSynchronized (v := none) (fun _ => rfl) (fun fs hr => ?_) e38 ?_ (by decide) (by decide)
      · show Steps p.tables e below (T24.setTop (mkF m 57 #[.val (.ref b1), .val (.long y1), .second, .val (.int (1 : Int32))] [(.int (lcmpW x0 y1))])) _
        refine XS.ifNo X24.here hx rfl (hb hby dA_57) rfl ((if0 _ _).trans (tlt ((lw_gt x0 y1).mpr hc57x)).2.2.2) ?_
        show Steps p.tables e below (T24.setTop (mkF m 60 #[.val (.ref b1), .val (.long y1), .second, .val (.int (1 : Int32))] [])) _
        refine XS.aloadN X24.here hx rfl (hb hby dA_60) rfl rfl ?_
        show Steps p.tables e below (T24.setTop (mkF m 61 #[.val (.ref b1), .val (.long y1), .second, .val (.int (1 : Int32))] [(.ref b1)])) _
        refine st27 _ ?_
        show Steps p.tables e below (T27.setTop (mkF m 64 #[.val (.ref b1), .val (.long y1), .second, .val (.int (1 : Int32))] [(.ref q1)])) _
        refine XS.iloadN X27.here hx rfl (hb hby dA_64) rfl ?_
        show Steps p.tables e below (T27.setTop (mkF m 65 #[.val (.ref b1), .val (.long y1), .second, .val (.int (1 : Int32))] [(.int (1 : Int32)), (.ref q1)])) _
        refine XS.aloadN X27.here hx rfl (hb hby dA_65) rfl rfl ?_
        show Steps p.tables e below (T27.setTop (mkF m 66 #[.val (.ref b1), .val (.long y1), .second, .val (.int (1 : Int32))] [(.ref b1), (.int (1 : Int32)), (.ref q1)])) _
        refine st28 _ ?_
        show Steps p.tables e below (T28.setTop (mkF m 69 #[.val (.ref b1), .val (.long y1), .second, .val (.int (1 : Int32))] [(.ref q1), (.int (1 : Int32)), (.ref q1)])) _
        refine XS.iloadN X28.here hx rfl (hb hby dA_69) rfl ?_
        show Steps p.tables e below (T28.setTop (mkF m 70 #[.val (.ref b1), .val (.long y1), .second, .val (.int (1 : Int32))] [(.int (1 : Int32)), (.ref q1), (.int (1 : Int32)), (.ref q1)])) _
        refine XS.iconst X28.here hx rfl (hb hby dA_70) ?_
        show Steps p.tables e below (T28.setTop (mkF m 71 #[.val (.ref b1), .val (.long y1), .second, .val (.int (1 : Int32))] [(.int (1 : Int32)), (.int (1 : Int32)), (.ref q1), (.int (1 : Int32)), (.ref q1)])) _
        refine XS.isub X28.here hx rfl (hb hby dA_71) rfl ?_
        show Steps p.tables e below (T28.setTop (mkF m 72 #[.val (.ref b1), .val (.long y1), .second, .val (.int (1 : Int32))] [(.int (0 : Int32)), (.ref q1), (.int (1 : Int32)), (.ref q1)])) _
        refine XS.iconst X28.here hx rfl (hb hby dA_72) ?_
        show Steps p.tables e below (T28.setTop (mkF m 73 #[.val (.ref b1), .val (.long y1), .second, .val (.int (1 : Int32))] [(.int (1 : Int32)), (.int (0 : Int32)), (.ref q1), (.int (1 : Int32)), (.ref q1)])) _
        refine XS.iushr X28.here hx rfl (hb hby dA_73) rfl ?_
        show Steps p.tables e below (T28.setTop (mkF m 74 #[.val (.ref b1), .val (.long y1), .second, .val (.int (1 : Int32))] [(.int (0 : Int32)), (.ref q1), (.int (1 : Int32)), (.ref q1)])) _
        refine X28.laload hx (j := (0 : Int32)) (v := (.long x0)) (by rw [e28]; exact Ar25.1) (State.isArrayOf_alike hZ.alike Ar25.2.1) Ar25.2.2 (own_hin S25 hi29) ha29 (g := (mkF m 74 #[.val (.ref b1), .val (.long y1), .second, .val (.int (1 : Int32))] [(.int (0 : Int32)), (.ref q1), (.int (1 : Int32)), (.ref q1)])) rfl rfl (hb hby dA_74) _ ?_
        show Steps p.tables e below (T28.setTop (mkF m 75 #[.val (.ref b1), .val (.long y1), .second, .val (.int (1 : Int32))] [(.long x0), (.int (1 : Int32)), (.ref q1)])) _
        refine st30 _ ?_
        show Steps p.tables e below (T30.setTop (mkF m 76 #[.val (.ref b1), .val (.long y1), .second, .val (.int (1 : Int32))] [])) _
        refine XS.iloadN X30.here hx rfl (hb hby dA_76) rfl ?_
        show Steps p.tables e below (T30.setTop (mkF m 77 #[.val (.ref b1), .val (.long y1), .second, .val (.int (1 : Int32))] [(.int (1 : Int32))])) _
        refine XS.iconst X30.here hx rfl (hb hby dA_77) ?_
        show Steps p.tables e below (T30.setTop (mkF m 78 #[.val (.ref b1), .val (.long y1), .second, .val (.int (1 : Int32))] [(.int (1 : Int32)), (.int (1 : Int32))])) _
        refine XS.isub X30.here hx rfl (hb hby dA_78) rfl ?_
        show Steps p.tables e below (T30.setTop (mkF m 79 #[.val (.ref b1), .val (.long y1), .second, .val (.int (1 : Int32))] [(.int (0 : Int32))])) _
        refine XS.iconst X30.here hx rfl (hb hby dA_79) ?_
        show Steps p.tables e below (T30.setTop (mkF m 80 #[.val (.ref b1), .val (.long y1), .second, .val (.int (1 : Int32))] [(.int (1 : Int32)), (.int (0 : Int32))])) _
        refine XS.iushr X30.here hx rfl (hb hby dA_80) rfl ?_
        show Steps p.tables e below (T30.setTop (mkF m 81 #[.val (.ref b1), .val (.long y1), .second, .val (.int (1 : Int32))] [(.int (0 : Int32))])) _
        refine XS.istoreN X30.here hx rfl (hb hby dA_81) rfl (l' := #[.val (.ref b1), .val (.long y1), .second, .val (.int (0 : Int32))]) rfl ?_
        show Steps p.tables e below (T30.setTop (mkF m 82 #[.val (.ref b1), .val (.long y1), .second, .val (.int (0 : Int32))] [])) _
        refine XS.goto X30.here hx rfl (pc0 := 82) (pc' := 41) rfl (hb hby dA_82) (by decide) (by decide) ?_
        show Steps p.tables e below (T30.setTop (mkF m 41 #[.val (.ref b1), .val (.long y1), .second, .val (.int (0 : Int32))] [])) _
        refine XS.iloadN X30.here hx rfl (hb hby dA_41) rfl ?_
        show Steps p.tables e below (T30.setTop (mkF m 42 #[.val (.ref b1), .val (.long y1), .second, .val (.int (0 : Int32))] [(.int (0 : Int32))])) _
        refine XS.ifYes X30.here hx rfl (pc0 := 42) (pc' := 85) rfl (hb hby dA_42) rfl ((if0 _ _).trans (flt hc42_35).2.2.2) (by decide) (by decide) ?_
        show Steps p.tables e below (T30.setTop (mkF m 85 #[.val (.ref b1), .val (.long y1), .second, .val (.int (0 : Int32))] [])) _
        refine XS.aloadN X30.here hx rfl (hb hby dA_85) rfl rfl ?_
        show Steps p.tables e below (T30.setTop (mkF m 86 #[.val (.ref b1), .val (.long y1), .second, .val (.int (0 : Int32))] [(.ref b1)])) _
        refine st36 _ ?_
        show Steps p.tables e below (T36.setTop (mkF m 89 #[.val (.ref b1), .val (.long y1), .second, .val (.int (0 : Int32))] [(.ref q1)])) _
        refine XS.iloadN X36.here hx rfl (hb hby dA_89) rfl ?_
        show Steps p.tables e below (T36.setTop (mkF m 90 #[.val (.ref b1), .val (.long y1), .second, .val (.int (0 : Int32))] [(.int (0 : Int32)), (.ref q1)])) _
        refine XS.lloadN X36.here hx rfl (hb hby dA_90) rfl ?_
        show Steps p.tables e below (T36.setTop (mkF m 91 #[.val (.ref b1), .val (.long y1), .second, .val (.int (0 : Int32))] [(.long y1), (.int (0 : Int32)), (.ref q1)])) _
        refine st38 _ ?_
        show Steps p.tables e below (T38.setTop (mkF m 92 #[.val (.ref b1), .val (.long y1), .second, .val (.int (0 : Int32))] [])) _
        exact X38.returnOut hx Bd.returns (hb hby dA_92) hr
      · exact ⟨rfl, N38, K38, E42, F40, F41, _, _, _, _, _, _, by rw [own_add_3, if_pos hc57, if_pos hc57x], V39⟩
    · obtain ⟨T43, X43, e43, st43⟩ := getF X24 hx hZ hown (host := "") (Or.inl (hw _ (List.mem_of_getElem? (i := 14) rfl))) Via.refl e24 F20 (g := (mkF m 86 #[.val (.ref b1), .val (.long y1), .second, .val (.int (1 : Int32))] [(.ref b1)])) rfl rfl (hb hby dA_86)
      obtain ⟨T44, h44, X44, e44, W44, st44⟩ := stJ X43 hx hZ e43 Ar25 (j := (1 : Int32)) (by rw [S25]; decide) (g := (mkF m 91 #[.val (.ref b1), .val (.long y1), .second, .val (.int (1 : Int32))] [(.long y1), (.int (1 : Int32)), (.ref q1)])) rfl rfl (hb hby dA_91)
      have N44 := Fr.snoc X44 N18 lo_q1
      obtain ⟨lc44, X44, N44⟩ := own_lc X44 N44
      have V45 : Arv Z h44 q1 k1 .long (16 : Int32) [(.long x0), (.long y1), (.long x2), (.long x1), (.long x4), (.long x5), (.long (0 : Int64)), (.long (0 : Int64)), (.long (0 : Int64)), (.long (0 : Int64)), (.long (0 : Int64)), (.long (0 : Int64)), (.long (0 : Int64)), (.long (0 : Int64)), (.long (0 : Int64)), (.long (0 : Int64))] (.long (0 : Int64)) := Arv.set Ar25 q25 S25 M25 H25 U25 rfl W44 1 rfl (by show 1 < 16; decide)
      have K44 := K18.wr W44 (Or.inl (List.mem_of_getElem? (i := 1) rfl))
      have F46 := F20.other W44 (Or.inl (Nat.ne_of_lt lt_q))
      have F47 := F21.other W44 (Or.inl (Nat.ne_of_lt lt_q))
      have E48 := E22.wr W44
      have Z44 : n0 ≤ h44.size := by rw [W44.size]; exact Z18
      refine own_end X44 Bd.notSynchronized (v := none) (fun _ => rfl) (fun fs hr => ?_) e44 ?_ (by decide) (by decide)
      · show Steps p.tables e below (T24.setTop (mkF m 57 #[.val (.ref b1), .val (.long y1), .second, .val (.int (1 : Int32))] [(.int (lcmpW x0 y1))])) _
        refine XS.ifYes X24.here hx rfl (pc0 := 57) (pc' := 85) rfl (hb hby dA_57) rfl ((if0 _ _).trans (flt (fun q => hc57x ((lw_gt x0 y1).mp q))).2.2.2) (by decide) (by decide) ?_
        show Steps p.tables e below (T24.setTop (mkF m 85 #[.val (.ref b1), .val (.long y1), .second, .val (.int (1 : Int32))] [])) _
        refine XS.aloadN X24.here hx rfl (hb hby dA_85) rfl rfl ?_
        show Steps p.tables e below (T24.setTop (mkF m 86 #[.val (.ref b1), .val (.long y1), .second, .val (.int (1 : Int32))] [(.ref b1)])) _
        refine st43 _ ?_
        show Steps p.tables e below (T43.setTop (mkF m 89 #[.val (.ref b1), .val (.long y1), .second, .val (.int (1 : Int32))] [(.ref q1)])) _
        refine XS.iloadN X43.here hx rfl (hb hby dA_89) rfl ?_
        show Steps p.tables e below (T43.setTop (mkF m 90 #[.val (.ref b1), .val (.long y1), .second, .val (.int (1 : Int32))] [(.int (1 : Int32)), (.ref q1)])) _
        refine XS.lloadN X43.here hx rfl (hb hby dA_90) rfl ?_
        show Steps p.tables e below (T43.setTop (mkF m 91 #[.val (.ref b1), .val (.long y1), .second, .val (.int (1 : Int32))] [(.long y1), (.int (1 : Int32)), (.ref q1)])) _
        refine st44 _ ?_
        show Steps p.tables e below (T44.setTop (mkF m 92 #[.val (.ref b1), .val (.long y1), .second, .val (.int (1 : Int32))] [])) _
        exact X44.returnOut hx Bd.returns (hb hby dA_92) hr
      · exact ⟨rfl, N44, K44, E48, F46, F47, _, _, _, _, _, _, by rw [own_add_3, if_pos hc57, if_neg hc57x], V45⟩
  · obtain ⟨T49, X49, e49, st49⟩ := getF X12 hx hZ hown (host := "") (Or.inl (hw _ (List.mem_of_getElem? (i := 14) rfl))) Via.refl e12 F8 (g := (mkF m 86 #[.val (.ref b1), .val (.long y1), .second, .val (.int (3 : Int32))] [(.ref b1)])) rfl rfl (hb hby dA_86)
    obtain ⟨T50, h50, X50, e50, W50, st50⟩ := stJ X49 hx hZ e49 Ar13 (j := (3 : Int32)) (by rw [S13]; decide) (g := (mkF m 91 #[.val (.ref b1), .val (.long y1), .second, .val (.int (3 : Int32))] [(.long y1), (.int (3 : Int32)), (.ref q1)])) rfl rfl (hb hby dA_91)
    have N50 := Fr.snoc X50 N6 lo_q1
    obtain ⟨lc50, X50, N50⟩ := own_lc X50 N50
    have V51 : Arv Z h50 q1 k1 .long (16 : Int32) [(.long x0), (.long x1), (.long x2), (.long y1), (.long x4), (.long x5), (.long (0 : Int64)), (.long (0 : Int64)), (.long (0 : Int64)), (.long (0 : Int64)), (.long (0 : Int64)), (.long (0 : Int64)), (.long (0 : Int64)), (.long (0 : Int64)), (.long (0 : Int64)), (.long (0 : Int64))] (.long (0 : Int64)) := Arv.set Ar13 q13 S13 M13 H13 U13 rfl W50 3 rfl (by show 3 < 16; decide)
    have K50 := K6.wr W50 (Or.inl (List.mem_of_getElem? (i := 1) rfl))
    have F52 := F8.other W50 (Or.inl (Nat.ne_of_lt lt_q))
    have F53 := F7.other W50 (Or.inl (Nat.ne_of_lt lt_q))
    have E54 := E9.wr W50
    have Z50 : n0 ≤ h50.size := by rw [W50.size]; exact Z6
    refine own_end X50 Bd.notSynchronized (v := none) (fun _ => rfl) (fun fs hr => ?_) e50 ?_ (by decide) (by decide)
    · show Steps p.tables e below (T12.setTop (mkF m 57 #[.val (.ref b1), .val (.long y1), .second, .val (.int (3 : Int32))] [(.int (lcmpW x1 y1))])) _
      refine XS.ifYes X12.here hx rfl (pc0 := 57) (pc' := 85) rfl (hb hby dA_57) rfl ((if0 _ _).trans (flt (fun q => hc57 ((lw_gt x1 y1).mp q))).2.2.2) (by decide) (by decide) ?_
      show Steps p.tables e below (T12.setTop (mkF m 85 #[.val (.ref b1), .val (.long y1), .second, .val (.int (3 : Int32))] [])) _
      refine XS.aloadN X12.here hx rfl (hb hby dA_85) rfl rfl ?_
      show Steps p.tables e below (T12.setTop (mkF m 86 #[.val (.ref b1), .val (.long y1), .second, .val (.int (3 : Int32))] [(.ref b1)])) _
      refine st49 _ ?_
      show Steps p.tables e below (T49.setTop (mkF m 89 #[.val (.ref b1), .val (.long y1), .second, .val (.int (3 : Int32))] [(.ref q1)])) _
      refine XS.iloadN X49.here hx rfl (hb hby dA_89) rfl ?_
      show Steps p.tables e below (T49.setTop (mkF m 90 #[.val (.ref b1), .val (.long y1), .second, .val (.int (3 : Int32))] [(.int (3 : Int32)), (.ref q1)])) _
      refine XS.lloadN X49.here hx rfl (hb hby dA_90) rfl ?_
      show Steps p.tables e below (T49.setTop (mkF m 91 #[.val (.ref b1), .val (.long y1), .second, .val (.int (3 : Int32))] [(.long y1), (.int (3 : Int32)), (.ref q1)])) _
      refine st50 _ ?_
      show Steps p.tables e below (T50.setTop (mkF m 92 #[.val (.ref b1), .val (.long y1), .second, .val (.int (3 : Int32))] [])) _
      exact X50.returnOut hx Bd.returns (hb hby dA_92) hr
    · exact ⟨rfl, N50, K50, E54, F52, F53, _, _, _, _, _, _, by rw [own_add_3, if_neg hc57], V51⟩
def own_add_4 (x0 : Int64) (x1 : Int64) (x2 : Int64) (x3 : Int64) (x4 : Int64) (x5 : Int64) (y1 : Int64) : List Int64 :=
  if y1 < x1 then
    if y1 < x0 then
      [y1, x0, x2, x3, x1, x5]
    else
      [x0, y1, x2, x3, x1, x5]
  else
    [x0, x1, x2, x3, y1, x5]
theorem pn_a4 : plainName "com/example/kdata/kdata/LongHeap" = true := by first | (simp [plainName, overriddenIn]; done) | decide +kernel
theorem ef_a4 (m : MethodId) (x0 : Addr) (x1 : Int64) : entryFrame m #[(.ref x0), (.long x1)] 4 = mkF m 0 #[.val (.ref x0), .val (.long x1), .second, .unset] [] := by first | (simp [entryFrame, mkF, argsToLocals, Value.category]; done) | rfl
def Qa4 (Z : State) (b1 q1 : Addr) (k1 : ClassId) (x0 : Int64) (x1 : Int64) (x2 : Int64) (x3 : Int64) (x4 : Int64) (x5 : Int64) (y1 : Int64) (h0 : Heap) (n0 : Nat) (v : Option Value) (h : Heap) (L : List Loc) : Prop := v = none ∧ Fr n0 L ∧ Keep h0 h [b1, q1] ∧ Exa Z h b1 "com/example/kdata/kdata/LongHeap" ∧ Fld Z h b1 "com/example/kdata/kdata/LongHeap" "data" "[J" (.ref q1) ∧ Fld Z h b1 "com/example/kdata/kdata/LongHeap" "size" "I" (.int (5 : Int32)) ∧ ∃ z0 z1 z2 z3 z4 z5 : Int64, [z0, z1, z2, z3, z4, z5] = own_add_4 x0 x1 x2 x3 x4 x5 y1 ∧ Arv Z h q1 k1 .long (16 : Int32) [(.long z0), (.long z1), (.long z2), (.long z3), (.long z4), (.long z5), (.long (0 : Int64)), (.long (0 : Int64)), (.long (0 : Int64)), (.long (0 : Int64)), (.long (0 : Int64)), (.long (0 : Int64)), (.long (0 : Int64)), (.long (0 : Int64)), (.long (0 : Int64)), (.long (0 : Int64))] (.long (0 : Int64))
set_option maxRecDepth 65536 in
set_option maxHeartbeats 40000000 in
theorem rma4 (l : Launch) (Z : State) (a0 : Array Value) (hw : ∀ d ∈ tables_1, d.before a0 Z = true) (ws : List Jvm.Cond)  (b1 q1 : Addr) (k1 : ClassId) (x0 : Int64) (x1 : Int64) (x2 : Int64) (x3 : Int64) (x4 : Int64) (x5 : Int64) (y1 : Int64) (h0 : Heap) (n0 : Nat) (Z0 : n0 ≤ h0.size) (F_d : Fld Z h0 b1 "com/example/kdata/kdata/LongHeap" "data" "[J" (.ref q1)) (F_s : Fld Z h0 b1 "com/example/kdata/kdata/LongHeap" "size" "I" (.int (4 : Int32))) (E_b1 : Exa Z h0 b1 "com/example/kdata/kdata/LongHeap") (lo_b1 : n0 ≤ b1) (lo_q1 : n0 ≤ q1) (lt_q : b1 < q1) (V_q1 : Arv Z h0 q1 k1 .long (16 : Int32) [(.long x0), (.long x1), (.long x2), (.long x3), (.long x4), (.long x5), (.long (0 : Int64)), (.long (0 : Int64)), (.long (0 : Int64)), (.long (0 : Int64)), (.long (0 : Int64)), (.long (0 : Int64)), (.long (0 : Int64)), (.long (0 : Int64)), (.long (0 : Int64)), (.long (0 : Int64))] (.long (0 : Int64))) :
    MetFree l (⟨"com/example/kdata/kdata/LongHeap", "add", "(J)V"⟩ : MethodName) (head1 (Jvm.Cond.code (⟨"com/example/kdata/kdata/LongHeap", "add", "(J)V"⟩ : MethodName) prog_81_method_3_code 4 none :: ws) ({ frames := 0, cells := 0, slots := 0, locals := 0 } : Room)) (fun a U => a = #[(.ref b1), (.long y1)] ∧ Z.Warmed39 U.vm ∧ U.heap = h0) (fun _ _ _ _ _ => True) (fun _ U o U' => ∃ v L, o = .returned v ∧ Qa4 Z b1 q1 k1 x0 x1 x2 x3 x4 x5 y1 h0 n0 v U'.heap L ∧ FrameEnd U o U' L ({ frames := 0, cells := 0, slots := 0, locals := 0 } : Room).cells ({ frames := 0, cells := 0, slots := 0, locals := 0 } : Room).slots) := by
  refine MetFree.of_bodySF (plainFor_of_name pn_a4) hisR ?_
  intro p e s m args below meth c s₁ Bd hml0 hP hK
  obtain ⟨rfl, hZ, hh⟩ := hP
  have hx := Bd.exec
  have hby := Bd.bytes
  have hml : c.maxLocals = 4 := hml0
  have hown : s.vm.findClass "com/example/kdata/kdata/LongHeap" = some m.cls := findClass_of_methodNamed Bd.named
  have hnm := (name_of_methodNamed Bd.named Bd.method).1
  have X0 : Stand p l e ({ frames := 0, cells := 0, slots := 0, locals := 0 } : Room) s m #[(.ref b1), (.long y1)] below meth c s₁ [] 0 0 := Stand.of_body Bd
  have e0 : s₁.heap = h0 := by rw [← hh, Bd.state]; rfl
  have N0 := Fr.nil n0
  show own_Go p e below s (Qa4 Z b1 q1 k1 x0 x1 x2 x3 x4 x5 y1 h0 n0) ({ frames := 0, cells := 0, slots := 0, locals := 0 } : Room).cells ({ frames := 0, cells := 0, slots := 0, locals := 0 } : Room).slots (s₁.setTop (entryFrame m #[(.ref b1), (.long y1)] 4))
  refine own_go (b := s₁.setTop (mkF m 0 #[.val (.ref b1), .val (.long y1), .second, .unset] [])) (fun t k => castTop (ef_a4 m b1 y1) k) ?_
  have K0 := Keep.refl h0 [b1, q1]
  obtain ⟨T1, X1, e1, st1⟩ := getF X0 hx hZ hown (host := "") (Or.inl (hw _ (List.mem_of_getElem? (i := 21) rfl))) Via.refl e0 F_s (g := (mkF m 1 #[.val (.ref b1), .val (.long y1), .second, .unset] [(.ref b1)])) rfl rfl (hb hby dA_1)
  obtain ⟨T2, X2, e2, st2⟩ := getF X1 hx hZ hown (host := "") (Or.inl (hw _ (List.mem_of_getElem? (i := 14) rfl))) Via.refl e1 F_d (g := (mkF m 5 #[.val (.ref b1), .val (.long y1), .second, .unset] [(.ref b1), (.int (4 : Int32))])) rfl rfl (hb hby dA_5)
  obtain ⟨cl3, Ar3, q3, S3, M3, H3, U3⟩ := id V_q1
  have hc9_4 : ¬ ((4 : Int32) = (16 : Int32)) := (by decide)
  obtain ⟨T5, X5, e5, st5⟩ := getF X2 hx hZ hown (host := "") (Or.inl (hw _ (List.mem_of_getElem? (i := 21) rfl))) Via.refl e2 F_s (g := (mkF m 31 #[.val (.ref b1), .val (.long y1), .second, .unset] [(.ref b1), (.ref b1)])) rfl rfl (hb hby dA_31)
  obtain ⟨T6, h6, X6, e6, W6, st6⟩ := putF X5 hx hZ hown (host := "") (Or.inl (hw _ (List.mem_of_getElem? (i := 21) rfl))) Via.refl e5 F_s E_b1 (Or.inl (hw _ (List.mem_of_getElem? (i := 22) rfl))) (hw _ (List.mem_of_getElem? (i := 6) rfl)) (ty := .int) (by decide) rfl rfl (g := (mkF m 37 #[.val (.ref b1), .val (.long y1), .second, .unset] [(.int (5 : Int32)), (.ref b1), (.int (4 : Int32))])) rfl rfl (hb hby dA_37)
  have N6 := Fr.snoc X6 N0 lo_b1
  obtain ⟨lc6, X6, N6⟩ := own_lc X6 N6
  have K6 := K0.wr W6 (Or.inl (List.mem_of_getElem? (i := 0) rfl))
  have F7 : Fld Z h6 b1 "com/example/kdata/kdata/LongHeap" "size" "I" (.int (5 : Int32)) := F_s.same W6
  have F8 := F_d.other W6 (Or.inr (slot_ne (Or.inl (hw _ (List.mem_of_getElem? (i := 15) rfl))) (Or.inl (hw _ (List.mem_of_getElem? (i := 22) rfl))) (by decide) (t := (.array .long)) (t' := .int) (by decide) (by decide)))
  have E9 := E_b1.wr W6
  have V10 := V_q1.other W6 (Nat.ne_of_gt lt_q)
  have Z6 : n0 ≤ h6.size := by rw [W6.size]; exact Z0
  have hc42_11 : (0 : Int32) < (4 : Int32) := (by decide)
  obtain ⟨T12, X12, e12, st12⟩ := getF X6 hx hZ hown (host := "") (Or.inl (hw _ (List.mem_of_getElem? (i := 14) rfl))) Via.refl e6 F8 (g := (mkF m 46 #[.val (.ref b1), .val (.long y1), .second, .val (.int (4 : Int32))] [(.ref b1)])) rfl rfl (hb hby dA_46)
  obtain ⟨cl13, Ar13, q13, S13, M13, H13, U13⟩ := id V10
  have hi14 : ¬ (1 : Int32) < 0 ∧ (1 : Int32).toNatClampNeg < (16 : Int32).toNatClampNeg := by decide
  have ha14 : cl13.slots[(1 : Int32).toNatClampNeg]? = some (.long x1) := H13 _ (by rw [S13]; exact hi14.2)
  refine own_go (b := T12.setTop (mkF m 57 #[.val (.ref b1), .val (.long y1), .second, .val (.int (4 : Int32))] [(.int (lcmpW x1 y1))])) (fun t k => ?_) ?_
  · show Steps p.tables e below (s₁.setTop (mkF m 0 #[.val (.ref b1), .val (.long y1), .second, .unset] [])) _
    refine XS.aloadN X0.here hx rfl (hb hby dA_0) rfl rfl ?_
    show Steps p.tables e below (s₁.setTop (mkF m 1 #[.val (.ref b1), .val (.long y1), .second, .unset] [(.ref b1)])) _
    refine st1 _ ?_
    show Steps p.tables e below (T1.setTop (mkF m 4 #[.val (.ref b1), .val (.long y1), .second, .unset] [(.int (4 : Int32))])) _
    refine XS.aloadN X1.here hx rfl (hb hby dA_4) rfl rfl ?_
    show Steps p.tables e below (T1.setTop (mkF m 5 #[.val (.ref b1), .val (.long y1), .second, .unset] [(.ref b1), (.int (4 : Int32))])) _
    refine st2 _ ?_
    show Steps p.tables e below (T2.setTop (mkF m 8 #[.val (.ref b1), .val (.long y1), .second, .unset] [(.ref q1), (.int (4 : Int32))])) _
    refine X2.arraylength hx (cell := cl3) (by rw [e2]; exact Ar3.1) (State.isArrayOf_alike hZ.alike Ar3.2.1) (g := (mkF m 8 #[.val (.ref b1), .val (.long y1), .second, .unset] [(.ref q1), (.int (4 : Int32))])) rfl (rest := [(.int (4 : Int32))]) rfl (hb hby dA_8) _ ?_
    rw [len_of S3 M3]
    show Steps p.tables e below (T2.setTop (mkF m 9 #[.val (.ref b1), .val (.long y1), .second, .unset] [(.int (16 : Int32)), (.int (4 : Int32))])) _
    refine XS.icmpYes X2.here hx rfl (pc0 := 9) (pc' := 29) rfl (hb hby dA_9) rfl (feq hc9_4).2 (by decide) (by decide) ?_
    show Steps p.tables e below (T2.setTop (mkF m 29 #[.val (.ref b1), .val (.long y1), .second, .unset] [])) _
    refine XS.aloadN X2.here hx rfl (hb hby dA_29) rfl rfl ?_
    show Steps p.tables e below (T2.setTop (mkF m 30 #[.val (.ref b1), .val (.long y1), .second, .unset] [(.ref b1)])) _
    refine XS.dup X2.here hx rfl (hb hby dA_30) rfl rfl ?_
    show Steps p.tables e below (T2.setTop (mkF m 31 #[.val (.ref b1), .val (.long y1), .second, .unset] [(.ref b1), (.ref b1)])) _
    refine st5 _ ?_
    show Steps p.tables e below (T5.setTop (mkF m 34 #[.val (.ref b1), .val (.long y1), .second, .unset] [(.int (4 : Int32)), (.ref b1)])) _
    refine XS.dupX1 X5.here hx rfl (hb hby dA_34) rfl rfl rfl ?_
    show Steps p.tables e below (T5.setTop (mkF m 35 #[.val (.ref b1), .val (.long y1), .second, .unset] [(.int (4 : Int32)), (.ref b1), (.int (4 : Int32))])) _
    refine XS.iconst X5.here hx rfl (hb hby dA_35) ?_
    show Steps p.tables e below (T5.setTop (mkF m 36 #[.val (.ref b1), .val (.long y1), .second, .unset] [(.int (1 : Int32)), (.int (4 : Int32)), (.ref b1), (.int (4 : Int32))])) _
    refine XS.iadd X5.here hx rfl (hb hby dA_36) rfl ?_
    show Steps p.tables e below (T5.setTop (mkF m 37 #[.val (.ref b1), .val (.long y1), .second, .unset] [(.int (5 : Int32)), (.ref b1), (.int (4 : Int32))])) _
    refine st6 _ ?_
    show Steps p.tables e below (T6.setTop (mkF m 40 #[.val (.ref b1), .val (.long y1), .second, .unset] [(.int (4 : Int32))])) _
    refine XS.istoreN X6.here hx rfl (hb hby dA_40) rfl (l' := #[.val (.ref b1), .val (.long y1), .second, .val (.int (4 : Int32))]) rfl ?_
    show Steps p.tables e below (T6.setTop (mkF m 41 #[.val (.ref b1), .val (.long y1), .second, .val (.int (4 : Int32))] [])) _
    refine XS.iloadN X6.here hx rfl (hb hby dA_41) rfl ?_
    show Steps p.tables e below (T6.setTop (mkF m 42 #[.val (.ref b1), .val (.long y1), .second, .val (.int (4 : Int32))] [(.int (4 : Int32))])) _
    refine XS.ifNo X6.here hx rfl (hb hby dA_42) rfl ((if0 _ _).trans (tlt hc42_11).2.2.2) ?_
    show Steps p.tables e below (T6.setTop (mkF m 45 #[.val (.ref b1), .val (.long y1), .second, .val (.int (4 : Int32))] [])) _
    refine XS.aloadN X6.here hx rfl (hb hby dA_45) rfl rfl ?_
    show Steps p.tables e below (T6.setTop (mkF m 46 #[.val (.ref b1), .val (.long y1), .second, .val (.int (4 : Int32))] [(.ref b1)])) _
    refine st12 _ ?_
    show Steps p.tables e below (T12.setTop (mkF m 49 #[.val (.ref b1), .val (.long y1), .second, .val (.int (4 : Int32))] [(.ref q1)])) _
    refine XS.iloadN X12.here hx rfl (hb hby dA_49) rfl ?_
    show Steps p.tables e below (T12.setTop (mkF m 50 #[.val (.ref b1), .val (.long y1), .second, .val (.int (4 : Int32))] [(.int (4 : Int32)), (.ref q1)])) _
    refine XS.iconst X12.here hx rfl (hb hby dA_50) ?_
    show Steps p.tables e below (T12.setTop (mkF m 51 #[.val (.ref b1), .val (.long y1), .second, .val (.int (4 : Int32))] [(.int (1 : Int32)), (.int (4 : Int32)), (.ref q1)])) _
    refine XS.isub X12.here hx rfl (hb hby dA_51) rfl ?_
    show Steps p.tables e below (T12.setTop (mkF m 52 #[.val (.ref b1), .val (.long y1), .second, .val (.int (4 : Int32))] [(.int (3 : Int32)), (.ref q1)])) _
    refine XS.iconst X12.here hx rfl (hb hby dA_52) ?_
    show Steps p.tables e below (T12.setTop (mkF m 53 #[.val (.ref b1), .val (.long y1), .second, .val (.int (4 : Int32))] [(.int (1 : Int32)), (.int (3 : Int32)), (.ref q1)])) _
    refine XS.iushr X12.here hx rfl (hb hby dA_53) rfl ?_
    show Steps p.tables e below (T12.setTop (mkF m 54 #[.val (.ref b1), .val (.long y1), .second, .val (.int (4 : Int32))] [(.int (1 : Int32)), (.ref q1)])) _
    refine X12.laload hx (j := (1 : Int32)) (v := (.long x1)) (by rw [e12]; exact Ar13.1) (State.isArrayOf_alike hZ.alike Ar13.2.1) Ar13.2.2 (own_hin S13 hi14) ha14 (g := (mkF m 54 #[.val (.ref b1), .val (.long y1), .second, .val (.int (4 : Int32))] [(.int (1 : Int32)), (.ref q1)])) rfl rfl (hb hby dA_54) _ ?_
    show Steps p.tables e below (T12.setTop (mkF m 55 #[.val (.ref b1), .val (.long y1), .second, .val (.int (4 : Int32))] [(.long x1)])) _
    refine XS.lloadN X12.here hx rfl (hb hby dA_55) rfl ?_
    show Steps p.tables e below (T12.setTop (mkF m 56 #[.val (.ref b1), .val (.long y1), .second, .val (.int (4 : Int32))] [(.long y1), (.long x1)])) _
    refine XS.lcmp X12.here hx rfl (hb hby dA_56) rfl ?_
    show Steps p.tables e below (T12.setTop (mkF m 57 #[.val (.ref b1), .val (.long y1), .second, .val (.int (4 : Int32))] [(.int (lcmpW x1 y1))])) _
    exact k
  by_cases hc57 : y1 < x1
  · obtain ⟨T15, X15, e15, st15⟩ := getF X12 hx hZ hown (host := "") (Or.inl (hw _ (List.mem_of_getElem? (i := 14) rfl))) Via.refl e12 F8 (g := (mkF m 61 #[.val (.ref b1), .val (.long y1), .second, .val (.int (4 : Int32))] [(.ref b1)])) rfl rfl (hb hby dA_61)
    obtain ⟨T16, X16, e16, st16⟩ := getF X15 hx hZ hown (host := "") (Or.inl (hw _ (List.mem_of_getElem? (i := 14) rfl))) Via.refl e15 F8 (g := (mkF m 66 #[.val (.ref b1), .val (.long y1), .second, .val (.int (4 : Int32))] [(.ref b1), (.int (4 : Int32)), (.ref q1)])) rfl rfl (hb hby dA_66)
    have hi17 : ¬ (1 : Int32) < 0 ∧ (1 : Int32).toNatClampNeg < (16 : Int32).toNatClampNeg := by decide
    have ha17 : cl13.slots[(1 : Int32).toNatClampNeg]? = some (.long x1) := H13 _ (by rw [S13]; exact hi17.2)
    obtain ⟨T18, h18, X18, e18, W18, st18⟩ := stJ X16 hx hZ e16 Ar13 (j := (4 : Int32)) (by rw [S13]; decide) (g := (mkF m 75 #[.val (.ref b1), .val (.long y1), .second, .val (.int (4 : Int32))] [(.long x1), (.int (4 : Int32)), (.ref q1)])) rfl rfl (hb hby dA_75)
    have N18 := Fr.snoc X18 N6 lo_q1
    obtain ⟨lc18, X18, N18⟩ := own_lc X18 N18
    have V19 : Arv Z h18 q1 k1 .long (16 : Int32) [(.long x0), (.long x1), (.long x2), (.long x3), (.long x1), (.long x5), (.long (0 : Int64)), (.long (0 : Int64)), (.long (0 : Int64)), (.long (0 : Int64)), (.long (0 : Int64)), (.long (0 : Int64)), (.long (0 : Int64)), (.long (0 : Int64)), (.long (0 : Int64)), (.long (0 : Int64))] (.long (0 : Int64)) := Arv.set Ar13 q13 S13 M13 H13 U13 rfl W18 4 rfl (by show 4 < 16; decide)
    have K18 := K6.wr W18 (Or.inl (List.mem_of_getElem? (i := 1) rfl))
    have F20 := F8.other W18 (Or.inl (Nat.ne_of_lt lt_q))
    have F21 := F7.other W18 (Or.inl (Nat.ne_of_lt lt_q))
    have E22 := E9.wr W18
    have Z18 : n0 ≤ h18.size := by rw [W18.size]; exact Z6
    have hc42_23 : (0 : Int32) < (1 : Int32) := (by decide)
    obtain ⟨T24, X24, e24, st24⟩ := getF X18 hx hZ hown (host := "") (Or.inl (hw _ (List.mem_of_getElem? (i := 14) rfl))) Via.refl e18 F20 (g := (mkF m 46 #[.val (.ref b1), .val (.long y1), .second, .val (.int (1 : Int32))] [(.ref b1)])) rfl rfl (hb hby dA_46)
    obtain ⟨cl25, Ar25, q25, S25, M25, H25, U25⟩ := id V19
    have hi26 : ¬ (0 : Int32) < 0 ∧ (0 : Int32).toNatClampNeg < (16 : Int32).toNatClampNeg := by decide
    have ha26 : cl25.slots[(0 : Int32).toNatClampNeg]? = some (.long x0) := H25 _ (by rw [S25]; exact hi26.2)
    refine own_go (b := T24.setTop (mkF m 57 #[.val (.ref b1), .val (.long y1), .second, .val (.int (1 : Int32))] [(.int (lcmpW x0 y1))])) (fun t k => ?_) ?_
    · show Steps p.tables e below (T12.setTop (mkF m 57 #[.val (.ref b1), .val (.long y1), .second, .val (.int (4 : Int32))] [(.int (lcmpW x1 y1))])) _
      refine XS.ifNo X12.here hx rfl (hb hby dA_57) rfl ((if0 _ _).trans (tlt ((lw_gt x1 y1).mpr hc57)).2.2.2) ?_
      show Steps p.tables e below (T12.setTop (mkF m 60 #[.val (.ref b1), .val (.long y1), .second, .val (.int (4 : Int32))] [])) _
      refine XS.aloadN X12.here hx rfl (hb hby dA_60) rfl rfl ?_
      show Steps p.tables e below (T12.setTop (mkF m 61 #[.val (.ref b1), .val (.long y1), .second, .val (.int (4 : Int32))] [(.ref b1)])) _
      refine st15 _ ?_
      show Steps p.tables e below (T15.setTop (mkF m 64 #[.val (.ref b1), .val (.long y1), .second, .val (.int (4 : Int32))] [(.ref q1)])) _
      refine XS.iloadN X15.here hx rfl (hb hby dA_64) rfl ?_
      show Steps p.tables e below (T15.setTop (mkF m 65 #[.val (.ref b1), .val (.long y1), .second, .val (.int (4 : Int32))] [(.int (4 : Int32)), (.ref q1)])) _
      refine XS.aloadN X15.here hx rfl (hb hby dA_65) rfl rfl ?_
      show Steps p.tables e below (T15.setTop (mkF m 66 #[.val (.ref b1), .val (.long y1), .second, .val (.int (4 : Int32))] [(.ref b1), (.int (4 : Int32)), (.ref q1)])) _
      refine st16 _ ?_
      show Steps p.tables e below (T16.setTop (mkF m 69 #[.val (.ref b1), .val (.long y1), .second, .val (.int (4 : Int32))] [(.ref q1), (.int (4 : Int32)), (.ref q1)])) _
      refine XS.iloadN X16.here hx rfl (hb hby dA_69) rfl ?_
      show Steps p.tables e below (T16.setTop (mkF m 70 #[.val (.ref b1), .val (.long y1), .second, .val (.int (4 : Int32))] [(.int (4 : Int32)), (.ref q1), (.int (4 : Int32)), (.ref q1)])) _
      refine XS.iconst X16.here hx rfl (hb hby dA_70) ?_
      show Steps p.tables e below (T16.setTop (mkF m 71 #[.val (.ref b1), .val (.long y1), .second, .val (.int (4 : Int32))] [(.int (1 : Int32)), (.int (4 : Int32)), (.ref q1), (.int (4 : Int32)), (.ref q1)])) _
      refine XS.isub X16.here hx rfl (hb hby dA_71) rfl ?_
      show Steps p.tables e below (T16.setTop (mkF m 72 #[.val (.ref b1), .val (.long y1), .second, .val (.int (4 : Int32))] [(.int (3 : Int32)), (.ref q1), (.int (4 : Int32)), (.ref q1)])) _
      refine XS.iconst X16.here hx rfl (hb hby dA_72) ?_
      show Steps p.tables e below (T16.setTop (mkF m 73 #[.val (.ref b1), .val (.long y1), .second, .val (.int (4 : Int32))] [(.int (1 : Int32)), (.int (3 : Int32)), (.ref q1), (.int (4 : Int32)), (.ref q1)])) _
      refine XS.iushr X16.here hx rfl (hb hby dA_73) rfl ?_
      show Steps p.tables e below (T16.setTop (mkF m 74 #[.val (.ref b1), .val (.long y1), .second, .val (.int (4 : Int32))] [(.int (1 : Int32)), (.ref q1), (.int (4 : Int32)), (.ref q1)])) _
      refine X16.laload hx (j := (1 : Int32)) (v := (.long x1)) (by rw [e16]; exact Ar13.1) (State.isArrayOf_alike hZ.alike Ar13.2.1) Ar13.2.2 (own_hin S13 hi17) ha17 (g := (mkF m 74 #[.val (.ref b1), .val (.long y1), .second, .val (.int (4 : Int32))] [(.int (1 : Int32)), (.ref q1), (.int (4 : Int32)), (.ref q1)])) rfl rfl (hb hby dA_74) _ ?_
      show Steps p.tables e below (T16.setTop (mkF m 75 #[.val (.ref b1), .val (.long y1), .second, .val (.int (4 : Int32))] [(.long x1), (.int (4 : Int32)), (.ref q1)])) _
      refine st18 _ ?_
      show Steps p.tables e below (T18.setTop (mkF m 76 #[.val (.ref b1), .val (.long y1), .second, .val (.int (4 : Int32))] [])) _
      refine XS.iloadN X18.here hx rfl (hb hby dA_76) rfl ?_
      show Steps p.tables e below (T18.setTop (mkF m 77 #[.val (.ref b1), .val (.long y1), .second, .val (.int (4 : Int32))] [(.int (4 : Int32))])) _
      refine XS.iconst X18.here hx rfl (hb hby dA_77) ?_
      show Steps p.tables e below (T18.setTop (mkF m 78 #[.val (.ref b1), .val (.long y1), .second, .val (.int (4 : Int32))] [(.int (1 : Int32)), (.int (4 : Int32))])) _
      refine XS.isub X18.here hx rfl (hb hby dA_78) rfl ?_
      show Steps p.tables e below (T18.setTop (mkF m 79 #[.val (.ref b1), .val (.long y1), .second, .val (.int (4 : Int32))] [(.int (3 : Int32))])) _
      refine XS.iconst X18.here hx rfl (hb hby dA_79) ?_
      show Steps p.tables e below (T18.setTop (mkF m 80 #[.val (.ref b1), .val (.long y1), .second, .val (.int (4 : Int32))] [(.int (1 : Int32)), (.int (3 : Int32))])) _
      refine XS.iushr X18.here hx rfl (hb hby dA_80) rfl ?_
      show Steps p.tables e below (T18.setTop (mkF m 81 #[.val (.ref b1), .val (.long y1), .second, .val (.int (4 : Int32))] [(.int (1 : Int32))])) _
      refine XS.istoreN X18.here hx rfl (hb hby dA_81) rfl (l' := #[.val (.ref b1), .val (.long y1), .second, .val (.int (1 : Int32))]) rfl ?_
      show Steps p.tables e below (T18.setTop (mkF m 82 #[.val (.ref b1), .val (.long y1), .second, .val (.int (1 : Int32))] [])) _
      refine XS.goto X18.here hx rfl (pc0 := 82) (pc' := 41) rfl (hb hby dA_82) (by decide) (by decide) ?_
      show Steps p.tables e below (T18.setTop (mkF m 41 #[.val (.ref b1), .val (.long y1), .second, .val (.int (1 : Int32))] [])) _
      refine XS.iloadN X18.here hx rfl (hb hby dA_41) rfl ?_
      show Steps p.tables e below (T18.setTop (mkF m 42 #[.val (.ref b1), .val (.long y1), .second, .val (.int (1 : Int32))] [(.int (1 : Int32))])) _
      refine XS.ifNo X18.here hx rfl (hb hby dA_42) rfl ((if0 _ _).trans (tlt hc42_23).2.2.2) ?_
      show Steps p.tables e below (T18.setTop (mkF m 45 #[.val (.ref b1), .val (.long y1), .second, .val (.int (1 : Int32))] [])) _
      refine XS.aloadN X18.here hx rfl (hb hby dA_45) rfl rfl ?_
      show Steps p.tables e below (T18.setTop (mkF m 46 #[.val (.ref b1), .val (.long y1), .second, .val (.int (1 : Int32))] [(.ref b1)])) _
      refine st24 _ ?_
      show Steps p.tables e below (T24.setTop (mkF m 49 #[.val (.ref b1), .val (.long y1), .second, .val (.int (1 : Int32))] [(.ref q1)])) _
      refine XS.iloadN X24.here hx rfl (hb hby dA_49) rfl ?_
      show Steps p.tables e below (T24.setTop (mkF m 50 #[.val (.ref b1), .val (.long y1), .second, .val (.int (1 : Int32))] [(.int (1 : Int32)), (.ref q1)])) _
      refine XS.iconst X24.here hx rfl (hb hby dA_50) ?_
      show Steps p.tables e below (T24.setTop (mkF m 51 #[.val (.ref b1), .val (.long y1), .second, .val (.int (1 : Int32))] [(.int (1 : Int32)), (.int (1 : Int32)), (.ref q1)])) _
      refine XS.isub X24.here hx rfl (hb hby dA_51) rfl ?_
      show Steps p.tables e below (T24.setTop (mkF m 52 #[.val (.ref b1), .val (.long y1), .second, .val (.int (1 : Int32))] [(.int (0 : Int32)), (.ref q1)])) _
      refine XS.iconst X24.here hx rfl (hb hby dA_52) ?_
      show Steps p.tables e below (T24.setTop (mkF m 53 #[.val (.ref b1), .val (.long y1), .second, .val (.int (1 : Int32))] [(.int (1 : Int32)), (.int (0 : Int32)), (.ref q1)])) _
      refine XS.iushr X24.here hx rfl (hb hby dA_53) rfl ?_
      show Steps p.tables e below (T24.setTop (mkF m 54 #[.val (.ref b1), .val (.long y1), .second, .val (.int (1 : Int32))] [(.int (0 : Int32)), (.ref q1)])) _
      refine X24.laload hx (j := (0 : Int32)) (v := (.long x0)) (by rw [e24]; exact Ar25.1) (State.isArrayOf_alike hZ.alike Ar25.2.1) Ar25.2.2 (own_hin S25 hi26) ha26 (g := (mkF m 54 #[.val (.ref b1), .val (.long y1), .second, .val (.int (1 : Int32))] [(.int (0 : Int32)), (.ref q1)])) rfl rfl (hb hby dA_54) _ ?_
      show Steps p.tables e below (T24.setTop (mkF m 55 #[.val (.ref b1), .val (.long y1), .second, .val (.int (1 : Int32))] [(.long x0)])) _
      refine XS.lloadN X24.here hx rfl (hb hby dA_55) rfl ?_
      show Steps p.tables e below (T24.setTop (mkF m 56 #[.val (.ref b1), .val (.long y1), .second, .val (.int (1 : Int32))] [(.long y1), (.long x0)])) _
      refine XS.lcmp X24.here hx rfl (hb hby dA_56) rfl ?_
      show Steps p.tables e below (T24.setTop (mkF m 57 #[.val (.ref b1), .val (.long y1), .second, .val (.int (1 : Int32))] [(.int (lcmpW x0 y1))])) _
      exact k
    by_cases hc57x : y1 < x0
    · obtain ⟨T27, X27, e27, st27⟩ := getF X24 hx hZ hown (host := "") (Or.inl (hw _ (List.mem_of_getElem? (i := 14) rfl))) Via.refl e24 F20 (g := (mkF m 61 #[.val (.ref b1), .val (.long y1), .second, .val (.int (1 : Int32))] [(.ref b1)])) rfl rfl (hb hby dA_61)
      obtain ⟨T28, X28, e28, st28⟩ := getF X27 hx hZ hown (host := "") (Or.inl (hw _ (List.mem_of_getElem? (i := 14) rfl))) Via.refl e27 F20 (g := (mkF m 66 #[.val (.ref b1), .val (.long y1), .second, .val (.int (1 : Int32))] [(.ref b1), (.int (1 : Int32)), (.ref q1)])) rfl rfl (hb hby dA_66)
      have hi29 : ¬ (0 : Int32) < 0 ∧ (0 : Int32).toNatClampNeg < (16 : Int32).toNatClampNeg := by decide
      have ha29 : cl25.slots[(0 : Int32).toNatClampNeg]? = some (.long x0) := H25 _ (by rw [S25]; exact hi29.2)
      obtain ⟨T30, h30, X30, e30, W30, st30⟩ := stJ X28 hx hZ e28 Ar25 (j := (1 : Int32)) (by rw [S25]; decide) (g := (mkF m 75 #[.val (.ref b1), .val (.long y1), .second, .val (.int (1 : Int32))] [(.long x0), (.int (1 : Int32)), (.ref q1)])) rfl rfl (hb hby dA_75)
      have N30 := Fr.snoc X30 N18 lo_q1
      obtain ⟨lc30, X30, N30⟩ := own_lc X30 N30
      have V31 : Arv Z h30 q1 k1 .long (16 : Int32) [(.long x0), (.long x0), (.long x2), (.long x3), (.long x1), (.long x5), (.long (0 : Int64)), (.long (0 : Int64)), (.long (0 : Int64)), (.long (0 : Int64)), (.long (0 : Int64)), (.long (0 : Int64)), (.long (0 : Int64)), (.long (0 : Int64)), (.long (0 : Int64)), (.long (0 : Int64))] (.long (0 : Int64)) := Arv.set Ar25 q25 S25 M25 H25 U25 rfl W30 1 rfl (by show 1 < 16; decide)
      have K30 := K18.wr W30 (Or.inl (List.mem_of_getElem? (i := 1) rfl))
      have F32 := F20.other W30 (Or.inl (Nat.ne_of_lt lt_q))
      have F33 := F21.other W30 (Or.inl (Nat.ne_of_lt lt_q))
      have E34 := E22.wr W30
      have Z30 : n0 ≤ h30.size := by rw [W30.size]; exact Z18
      have hc42_35 : ¬ ((0 : Int32) < (0 : Int32)) := (by decide)
      obtain ⟨T36, X36, e36, st36⟩ := getF X30 hx hZ hown (host := "") (Or.inl (hw _ (List.mem_of_getElem? (i := 14) rfl))) Via.refl e30 F32 (g := (mkF m 86 #[.val (.ref b1), .val (.long y1), .second, .val (.int (0 : Int32))] [(.ref b1)])) rfl rfl (hb hby dA_86)
      obtain ⟨cl37, Ar37, q37, S37, M37, H37, U37⟩ := id V31
      obtain ⟨T38, h38, X38, e38, W38, st38⟩ := stJ X36 hx hZ e36 Ar37 (j := (0 : Int32)) (by rw [S37]; decide) (g := (mkF m 91 #[.val (.ref b1), .val (.long y1), .second, .val (.int (0 : Int32))] [(.long y1), (.int (0 : Int32)), (.ref q1)])) rfl rfl (hb hby dA_91)
      have N38 := Fr.snoc X38 N30 lo_q1
      obtain ⟨lc38, X38, N38⟩ := own_lc X38 N38
      have V39 : Arv Z h38 q1 k1 .long (16 : Int32) [(.long y1), (.long x0), (.long x2), (.long x3), (.long x1), (.long x5), (.long (0 : Int64)), (.long (0 : Int64)), (.long (0 : Int64)), (.long (0 : Int64)), (.long (0 : Int64)), (.long (0 : Int64)), (.long (0 : Int64)), (.long (0 : Int64)), (.long (0 : Int64)), (.long (0 : Int64))] (.long (0 : Int64)) := Arv.set Ar37 q37 S37 M37 H37 U37 rfl W38 0 rfl (by show 0 < 16; decide)
      have K38 := K30.wr W38 (Or.inl (List.mem_of_getElem? (i := 1) rfl))
      have F40 := F32.other W38 (Or.inl (Nat.ne_of_lt lt_q))
      have F41 := F33.other W38 (Or.inl (Nat.ne_of_lt lt_q))
      have E42 := E34.wr W38
      have Z38 : n0 ≤ h38.size := by rw [W38.size]; exact Z30
      refine own_end X38 Bd.notSynchronized (v := none) (fun _ => rfl) (fun fs hr => ?_) e38 ?_ (by decide) (by decide)
      · show Steps p.tables e below (T24.setTop (mkF m 57 #[.val (.ref b1), .val (.long y1), .second, .val (.int (1 : Int32))] [(.int (lcmpW x0 y1))])) _
        refine XS.ifNo X24.here hx rfl (hb hby dA_57) rfl ((if0 _ _).trans (tlt ((lw_gt x0 y1).mpr hc57x)).2.2.2) ?_
        show Steps p.tables e below (T24.setTop (mkF m 60 #[.val (.ref b1), .val (.long y1), .second, .val (.int (1 : Int32))] [])) _
        refine XS.aloadN X24.here hx rfl (hb hby dA_60) rfl rfl ?_
        show Steps p.tables e below (T24.setTop (mkF m 61 #[.val (.ref b1), .val (.long y1), .second, .val (.int (1 : Int32))] [(.ref b1)])) _
        refine st27 _ ?_
        show Steps p.tables e below (T27.setTop (mkF m 64 #[.val (.ref b1), .val (.long y1), .second, .val (.int (1 : Int32))] [(.ref q1)])) _
        refine XS.iloadN X27.here hx rfl (hb hby dA_64) rfl ?_
        show Steps p.tables e below (T27.setTop (mkF m 65 #[.val (.ref b1), .val (.long y1), .second, .val (.int (1 : Int32))] [(.int (1 : Int32)), (.ref q1)])) _
        refine XS.aloadN X27.here hx rfl (hb hby dA_65) rfl rfl ?_
        show Steps p.tables e below (T27.setTop (mkF m 66 #[.val (.ref b1), .val (.long y1), .second, .val (.int (1 : Int32))] [(.ref b1), (.int (1 : Int32)), (.ref q1)])) _
        refine st28 _ ?_
        show Steps p.tables e below (T28.setTop (mkF m 69 #[.val (.ref b1), .val (.long y1), .second, .val (.int (1 : Int32))] [(.ref q1), (.int (1 : Int32)), (.ref q1)])) _
        refine XS.iloadN X28.here hx rfl (hb hby dA_69) rfl ?_
        show Steps p.tables e below (T28.setTop (mkF m 70 #[.val (.ref b1), .val (.long y1), .second, .val (.int (1 : Int32))] [(.int (1 : Int32)), (.ref q1), (.int (1 : Int32)), (.ref q1)])) _
        refine XS.iconst X28.here hx rfl (hb hby dA_70) ?_
        show Steps p.tables e below (T28.setTop (mkF m 71 #[.val (.ref b1), .val (.long y1), .second, .val (.int (1 : Int32))] [(.int (1 : Int32)), (.int (1 : Int32)), (.ref q1), (.int (1 : Int32)), (.ref q1)])) _
        refine XS.isub X28.here hx rfl (hb hby dA_71) rfl ?_
        show Steps p.tables e below (T28.setTop (mkF m 72 #[.val (.ref b1), .val (.long y1), .second, .val (.int (1 : Int32))] [(.int (0 : Int32)), (.ref q1), (.int (1 : Int32)), (.ref q1)])) _
        refine XS.iconst X28.here hx rfl (hb hby dA_72) ?_
        show Steps p.tables e below (T28.setTop (mkF m 73 #[.val (.ref b1), .val (.long y1), .second, .val (.int (1 : Int32))] [(.int (1 : Int32)), (.int (0 : Int32)), (.ref q1), (.int (1 : Int32)), (.ref q1)])) _
        refine XS.iushr X28.here hx rfl (hb hby dA_73) rfl ?_
        show Steps p.tables e below (T28.setTop (mkF m 74 #[.val (.ref b1), .val (.long y1), .second, .val (.int (1 : Int32))] [(.int (0 : Int32)), (.ref q1), (.int (1 : Int32)), (.ref q1)])) _
        refine X28.laload hx (j := (0 : Int32)) (v := (.long x0)) (by rw [e28]; exact Ar25.1) (State.isArrayOf_alike hZ.alike Ar25.2.1) Ar25.2.2 (own_hin S25 hi29) ha29 (g := (mkF m 74 #[.val (.ref b1), .val (.long y1), .second, .val (.int (1 : Int32))] [(.int (0 : Int32)), (.ref q1), (.int (1 : Int32)), (.ref q1)])) rfl rfl (hb hby dA_74) _ ?_
        show Steps p.tables e below (T28.setTop (mkF m 75 #[.val (.ref b1), .val (.long y1), .second, .val (.int (1 : Int32))] [(.long x0), (.int (1 : Int32)), (.ref q1)])) _
        refine st30 _ ?_
        show Steps p.tables e below (T30.setTop (mkF m 76 #[.val (.ref b1), .val (.long y1), .second, .val (.int (1 : Int32))] [])) _
        refine XS.iloadN X30.here hx rfl (hb hby dA_76) rfl ?_
        show Steps p.tables e below (T30.setTop (mkF m 77 #[.val (.ref b1), .val (.long y1), .second, .val (.int (1 : Int32))] [(.int (1 : Int32))])) _
        refine XS.iconst X30.here hx rfl (hb hby dA_77) ?_
        show Steps p.tables e below (T30.setTop (mkF m 78 #[.val (.ref b1), .val (.long y1), .second, .val (.int (1 : Int32))] [(.int (1 : Int32)), (.int (1 : Int32))])) _
        refine XS.isub X30.here hx rfl (hb hby dA_78) rfl ?_
        show Steps p.tables e below (T30.setTop (mkF m 79 #[.val (.ref b1), .val (.long y1), .second, .val (.int (1 : Int32))] [(.int (0 : Int32))])) _
        refine XS.iconst X30.here hx rfl (hb hby dA_79) ?_
        show Steps p.tables e below (T30.setTop (mkF m 80 #[.val (.ref b1), .val (.long y1), .second, .val (.int (1 : Int32))] [(.int (1 : Int32)), (.int (0 : Int32))])) _
        refine XS.iushr X30.here hx rfl (hb hby dA_80) rfl ?_
        show Steps p.tables e below (T30.setTop (mkF m 81 #[.val (.ref b1), .val (.long y1), .second, .val (.int (1 : Int32))] [(.int (0 : Int32))])) _
        refine XS.istoreN X30.here hx rfl (hb hby dA_81) rfl (l' := #[.val (.ref b1), .val (.long y1), .second, .val (.int (0 : Int32))]) rfl ?_
        show Steps p.tables e below (T30.setTop (mkF m 82 #[.val (.ref b1), .val (.long y1), .second, .val (.int (0 : Int32))] [])) _
        refine XS.goto X30.here hx rfl (pc0 := 82) (pc' := 41) rfl (hb hby dA_82) (by decide) (by decide) ?_
        show Steps p.tables e below (T30.setTop (mkF m 41 #[.val (.ref b1), .val (.long y1), .second, .val (.int (0 : Int32))] [])) _
        refine XS.iloadN X30.here hx rfl (hb hby dA_41) rfl ?_
        show Steps p.tables e below (T30.setTop (mkF m 42 #[.val (.ref b1), .val (.long y1), .second, .val (.int (0 : Int32))] [(.int (0 : Int32))])) _
        refine XS.ifYes X30.here hx rfl (pc0 := 42) (pc' := 85) rfl (hb hby dA_42) rfl ((if0 _ _).trans (flt hc42_35).2.2.2) (by decide) (by decide) ?_
        show Steps p.tables e below (T30.setTop (mkF m 85 #[.val (.ref b1), .val (.long y1), .second, .val (.int (0 : Int32))] [])) _
        refine XS.aloadN X30.here hx rfl (hb hby dA_85) rfl rfl ?_
        show Steps p.tables e below (T30.setTop (mkF m 86 #[.val (.ref b1), .val (.long y1), .second, .val (.int (0 : Int32))] [(.ref b1)])) _
        refine st36 _ ?_
        show Steps p.tables e below (T36.setTop (mkF m 89 #[.val (.ref b1), .val (.long y1), .second, .val (.int (0 : Int32))] [(.ref q1)])) _
        refine XS.iloadN X36.here hx rfl (hb hby dA_89) rfl ?_
        show Steps p.tables e below (T36.setTop (mkF m 90 #[.val (.ref b1), .val (.long y1), .second, .val (.int (0 : Int32))] [(.int (0 : Int32)), (.ref q1)])) _
        refine XS.lloadN X36.here hx rfl (hb hby dA_90) rfl ?_
        show Steps p.tables e below (T36.setTop (mkF m 91 #[.val (.ref b1), .val (.long y1), .second, .val (.int (0 : Int32))] [(.long y1), (.int (0 : Int32)), (.ref q1)])) _
        refine st38 _ ?_
        show Steps p.tables e below (T38.setTop (mkF m 92 #[.val (.ref b1), .val (.long y1), .second, .val (.int (0 : Int32))] [])) _
        exact X38.returnOut hx Bd.returns (hb hby dA_92) hr
      · exact ⟨rfl, N38, K38, E42, F40, F41, _, _, _, _, _, _, by rw [own_add_4, if_pos hc57, if_pos hc57x], V39⟩
    · obtain ⟨T43, X43, e43, st43⟩ := getF X24 hx hZ hown (host := "") (Or.inl (hw _ (List.mem_of_getElem? (i := 14) rfl))) Via.refl e24 F20 (g := (mkF m 86 #[.val (.ref b1), .val (.long y1), .second, .val (.int (1 : Int32))] [(.ref b1)])) rfl rfl (hb hby dA_86)
      obtain ⟨T44, h44, X44, e44, W44, st44⟩ := stJ X43 hx hZ e43 Ar25 (j := (1 : Int32)) (by rw [S25]; decide) (g := (mkF m 91 #[.val (.ref b1), .val (.long y1), .second, .val (.int (1 : Int32))] [(.long y1), (.int (1 : Int32)), (.ref q1)])) rfl rfl (hb hby dA_91)
      have N44 := Fr.snoc X44 N18 lo_q1
      obtain ⟨lc44, X44, N44⟩ := own_lc X44 N44
      have V45 : Arv Z h44 q1 k1 .long (16 : Int32) [(.long x0), (.long y1), (.long x2), (.long x3), (.long x1), (.long x5), (.long (0 : Int64)), (.long (0 : Int64)), (.long (0 : Int64)), (.long (0 : Int64)), (.long (0 : Int64)), (.long (0 : Int64)), (.long (0 : Int64)), (.long (0 : Int64)), (.long (0 : Int64)), (.long (0 : Int64))] (.long (0 : Int64)) := Arv.set Ar25 q25 S25 M25 H25 U25 rfl W44 1 rfl (by show 1 < 16; decide)
      have K44 := K18.wr W44 (Or.inl (List.mem_of_getElem? (i := 1) rfl))
      have F46 := F20.other W44 (Or.inl (Nat.ne_of_lt lt_q))
      have F47 := F21.other W44 (Or.inl (Nat.ne_of_lt lt_q))
      have E48 := E22.wr W44
      have Z44 : n0 ≤ h44.size := by rw [W44.size]; exact Z18
      refine own_end X44 Bd.notSynchronized (v := none) (fun _ => rfl) (fun fs hr => ?_) e44 ?_ (by decide) (by decide)
      · show Steps p.tables e below (T24.setTop (mkF m 57 #[.val (.ref b1), .val (.long y1), .second, .val (.int (1 : Int32))] [(.int (lcmpW x0 y1))])) _
        refine XS.ifYes X24.here hx rfl (pc0 := 57) (pc' := 85) rfl (hb hby dA_57) rfl ((if0 _ _).trans (flt (fun q => hc57x ((lw_gt x0 y1).mp q))).2.2.2) (by decide) (by decide) ?_
        show Steps p.tables e below (T24.setTop (mkF m 85 #[.val (.ref b1), .val (.long y1), .second, .val (.int (1 : Int32))] [])) _
        refine XS.aloadN X24.here hx rfl (hb hby dA_85) rfl rfl ?_
        show Steps p.tables e below (T24.setTop (mkF m 86 #[.val (.ref b1), .val (.long y1), .second, .val (.int (1 : Int32))] [(.ref b1)])) _
        refine st43 _ ?_
        show Steps p.tables e below (T43.setTop (mkF m 89 #[.val (.ref b1), .val (.long y1), .second, .val (.int (1 : Int32))] [(.ref q1)])) _
        refine XS.iloadN X43.here hx rfl (hb hby dA_89) rfl ?_
        show Steps p.tables e below (T43.setTop (mkF m 90 #[.val (.ref b1), .val (.long y1), .second, .val (.int (1 : Int32))] [(.int (1 : Int32)), (.ref q1)])) _
        refine XS.lloadN X43.here hx rfl (hb hby dA_90) rfl ?_
        show Steps p.tables e below (T43.setTop (mkF m 91 #[.val (.ref b1), .val (.long y1), .second, .val (.int (1 : Int32))] [(.long y1), (.int (1 : Int32)), (.ref q1)])) _
        refine st44 _ ?_
        show Steps p.tables e below (T44.setTop (mkF m 92 #[.val (.ref b1), .val (.long y1), .second, .val (.int (1 : Int32))] [])) _
        exact X44.returnOut hx Bd.returns (hb hby dA_92) hr
      · exact ⟨rfl, N44, K44, E48, F46, F47, _, _, _, _, _, _, by rw [own_add_4, if_pos hc57, if_neg hc57x], V45⟩
  · obtain ⟨T49, X49, e49, st49⟩ := getF X12 hx hZ hown (host := "") (Or.inl (hw _ (List.mem_of_getElem? (i := 14) rfl))) Via.refl e12 F8 (g := (mkF m 86 #[.val (.ref b1), .val (.long y1), .second, .val (.int (4 : Int32))] [(.ref b1)])) rfl rfl (hb hby dA_86)
    obtain ⟨T50, h50, X50, e50, W50, st50⟩ := stJ X49 hx hZ e49 Ar13 (j := (4 : Int32)) (by rw [S13]; decide) (g := (mkF m 91 #[.val (.ref b1), .val (.long y1), .second, .val (.int (4 : Int32))] [(.long y1), (.int (4 : Int32)), (.ref q1)])) rfl rfl (hb hby dA_91)
    have N50 := Fr.snoc X50 N6 lo_q1
    obtain ⟨lc50, X50, N50⟩ := own_lc X50 N50
    have V51 : Arv Z h50 q1 k1 .long (16 : Int32) [(.long x0), (.long x1), (.long x2), (.long x3), (.long y1), (.long x5), (.long (0 : Int64)), (.long (0 : Int64)), (.long (0 : Int64)), (.long (0 : Int64)), (.long (0 : Int64)), (.long (0 : Int64)), (.long (0 : Int64)), (.long (0 : Int64)), (.long (0 : Int64)), (.long (0 : Int64))] (.long (0 : Int64)) := Arv.set Ar13 q13 S13 M13 H13 U13 rfl W50 4 rfl (by show 4 < 16; decide)
    have K50 := K6.wr W50 (Or.inl (List.mem_of_getElem? (i := 1) rfl))
    have F52 := F8.other W50 (Or.inl (Nat.ne_of_lt lt_q))
    have F53 := F7.other W50 (Or.inl (Nat.ne_of_lt lt_q))
    have E54 := E9.wr W50
    have Z50 : n0 ≤ h50.size := by rw [W50.size]; exact Z6
    refine own_end X50 Bd.notSynchronized (v := none) (fun _ => rfl) (fun fs hr => ?_) e50 ?_ (by decide) (by decide)
    · show Steps p.tables e below (T12.setTop (mkF m 57 #[.val (.ref b1), .val (.long y1), .second, .val (.int (4 : Int32))] [(.int (lcmpW x1 y1))])) _
      refine XS.ifYes X12.here hx rfl (pc0 := 57) (pc' := 85) rfl (hb hby dA_57) rfl ((if0 _ _).trans (flt (fun q => hc57 ((lw_gt x1 y1).mp q))).2.2.2) (by decide) (by decide) ?_
      show Steps p.tables e below (T12.setTop (mkF m 85 #[.val (.ref b1), .val (.long y1), .second, .val (.int (4 : Int32))] [])) _
      refine XS.aloadN X12.here hx rfl (hb hby dA_85) rfl rfl ?_
      show Steps p.tables e below (T12.setTop (mkF m 86 #[.val (.ref b1), .val (.long y1), .second, .val (.int (4 : Int32))] [(.ref b1)])) _
      refine st49 _ ?_
      show Steps p.tables e below (T49.setTop (mkF m 89 #[.val (.ref b1), .val (.long y1), .second, .val (.int (4 : Int32))] [(.ref q1)])) _
      refine XS.iloadN X49.here hx rfl (hb hby dA_89) rfl ?_
      show Steps p.tables e below (T49.setTop (mkF m 90 #[.val (.ref b1), .val (.long y1), .second, .val (.int (4 : Int32))] [(.int (4 : Int32)), (.ref q1)])) _
      refine XS.lloadN X49.here hx rfl (hb hby dA_90) rfl ?_
      show Steps p.tables e below (T49.setTop (mkF m 91 #[.val (.ref b1), .val (.long y1), .second, .val (.int (4 : Int32))] [(.long y1), (.int (4 : Int32)), (.ref q1)])) _
      refine st50 _ ?_
      show Steps p.tables e below (T50.setTop (mkF m 92 #[.val (.ref b1), .val (.long y1), .second, .val (.int (4 : Int32))] [])) _
      exact X50.returnOut hx Bd.returns (hb hby dA_92) hr
    · exact ⟨rfl, N50, K50, E54, F52, F53, _, _, _, _, _, _, by rw [own_add_4, if_neg hc57], V51⟩
def own_add_5 (x0 : Int64) (x1 : Int64) (x2 : Int64) (x3 : Int64) (x4 : Int64) (x5 : Int64) (y1 : Int64) : List Int64 :=
  if y1 < x2 then
    if y1 < x0 then
      [y1, x1, x0, x3, x4, x2]
    else
      [x0, x1, y1, x3, x4, x2]
  else
    [x0, x1, x2, x3, x4, y1]
theorem pn_a5 : plainName "com/example/kdata/kdata/LongHeap" = true := by first | (simp [plainName, overriddenIn]; done) | decide +kernel
theorem ef_a5 (m : MethodId) (x0 : Addr) (x1 : Int64) : entryFrame m #[(.ref x0), (.long x1)] 4 = mkF m 0 #[.val (.ref x0), .val (.long x1), .second, .unset] [] := by first | (simp [entryFrame, mkF, argsToLocals, Value.category]; done) | rfl
def Qa5 (Z : State) (b1 q1 : Addr) (k1 : ClassId) (x0 : Int64) (x1 : Int64) (x2 : Int64) (x3 : Int64) (x4 : Int64) (x5 : Int64) (y1 : Int64) (h0 : Heap) (n0 : Nat) (v : Option Value) (h : Heap) (L : List Loc) : Prop := v = none ∧ Fr n0 L ∧ Keep h0 h [b1, q1] ∧ Exa Z h b1 "com/example/kdata/kdata/LongHeap" ∧ Fld Z h b1 "com/example/kdata/kdata/LongHeap" "data" "[J" (.ref q1) ∧ Fld Z h b1 "com/example/kdata/kdata/LongHeap" "size" "I" (.int (6 : Int32)) ∧ ∃ z0 z1 z2 z3 z4 z5 : Int64, [z0, z1, z2, z3, z4, z5] = own_add_5 x0 x1 x2 x3 x4 x5 y1 ∧ Arv Z h q1 k1 .long (16 : Int32) [(.long z0), (.long z1), (.long z2), (.long z3), (.long z4), (.long z5), (.long (0 : Int64)), (.long (0 : Int64)), (.long (0 : Int64)), (.long (0 : Int64)), (.long (0 : Int64)), (.long (0 : Int64)), (.long (0 : Int64)), (.long (0 : Int64)), (.long (0 : Int64)), (.long (0 : Int64))] (.long (0 : Int64))
set_option maxRecDepth 65536 in
set_option maxHeartbeats 40000000 in
theorem rma5 (l : Launch) (Z : State) (a0 : Array Value) (hw : ∀ d ∈ tables_1, d.before a0 Z = true) (ws : List Jvm.Cond)  (b1 q1 : Addr) (k1 : ClassId) (x0 : Int64) (x1 : Int64) (x2 : Int64) (x3 : Int64) (x4 : Int64) (x5 : Int64) (y1 : Int64) (h0 : Heap) (n0 : Nat) (Z0 : n0 ≤ h0.size) (F_d : Fld Z h0 b1 "com/example/kdata/kdata/LongHeap" "data" "[J" (.ref q1)) (F_s : Fld Z h0 b1 "com/example/kdata/kdata/LongHeap" "size" "I" (.int (5 : Int32))) (E_b1 : Exa Z h0 b1 "com/example/kdata/kdata/LongHeap") (lo_b1 : n0 ≤ b1) (lo_q1 : n0 ≤ q1) (lt_q : b1 < q1) (V_q1 : Arv Z h0 q1 k1 .long (16 : Int32) [(.long x0), (.long x1), (.long x2), (.long x3), (.long x4), (.long x5), (.long (0 : Int64)), (.long (0 : Int64)), (.long (0 : Int64)), (.long (0 : Int64)), (.long (0 : Int64)), (.long (0 : Int64)), (.long (0 : Int64)), (.long (0 : Int64)), (.long (0 : Int64)), (.long (0 : Int64))] (.long (0 : Int64))) :
    MetFree l (⟨"com/example/kdata/kdata/LongHeap", "add", "(J)V"⟩ : MethodName) (head1 (Jvm.Cond.code (⟨"com/example/kdata/kdata/LongHeap", "add", "(J)V"⟩ : MethodName) prog_81_method_3_code 4 none :: ws) ({ frames := 0, cells := 0, slots := 0, locals := 0 } : Room)) (fun a U => a = #[(.ref b1), (.long y1)] ∧ Z.Warmed39 U.vm ∧ U.heap = h0) (fun _ _ _ _ _ => True) (fun _ U o U' => ∃ v L, o = .returned v ∧ Qa5 Z b1 q1 k1 x0 x1 x2 x3 x4 x5 y1 h0 n0 v U'.heap L ∧ FrameEnd U o U' L ({ frames := 0, cells := 0, slots := 0, locals := 0 } : Room).cells ({ frames := 0, cells := 0, slots := 0, locals := 0 } : Room).slots) := by
  refine MetFree.of_bodySF (plainFor_of_name pn_a5) hisR ?_
  intro p e s m args below meth c s₁ Bd hml0 hP hK
  obtain ⟨rfl, hZ, hh⟩ := hP
  have hx := Bd.exec
  have hby := Bd.bytes
  have hml : c.maxLocals = 4 := hml0
  have hown : s.vm.findClass "com/example/kdata/kdata/LongHeap" = some m.cls := findClass_of_methodNamed Bd.named
  have hnm := (name_of_methodNamed Bd.named Bd.method).1
  have X0 : Stand p l e ({ frames := 0, cells := 0, slots := 0, locals := 0 } : Room) s m #[(.ref b1), (.long y1)] below meth c s₁ [] 0 0 := Stand.of_body Bd
  have e0 : s₁.heap = h0 := by rw [← hh, Bd.state]; rfl
  have N0 := Fr.nil n0
  show own_Go p e below s (Qa5 Z b1 q1 k1 x0 x1 x2 x3 x4 x5 y1 h0 n0) ({ frames := 0, cells := 0, slots := 0, locals := 0 } : Room).cells ({ frames := 0, cells := 0, slots := 0, locals := 0 } : Room).slots (s₁.setTop (entryFrame m #[(.ref b1), (.long y1)] 4))
  refine own_go (b := s₁.setTop (mkF m 0 #[.val (.ref b1), .val (.long y1), .second, .unset] [])) (fun t k => castTop (ef_a5 m b1 y1) k) ?_
  have K0 := Keep.refl h0 [b1, q1]
  obtain ⟨T1, X1, e1, st1⟩ := getF X0 hx hZ hown (host := "") (Or.inl (hw _ (List.mem_of_getElem? (i := 21) rfl))) Via.refl e0 F_s (g := (mkF m 1 #[.val (.ref b1), .val (.long y1), .second, .unset] [(.ref b1)])) rfl rfl (hb hby dA_1)
  obtain ⟨T2, X2, e2, st2⟩ := getF X1 hx hZ hown (host := "") (Or.inl (hw _ (List.mem_of_getElem? (i := 14) rfl))) Via.refl e1 F_d (g := (mkF m 5 #[.val (.ref b1), .val (.long y1), .second, .unset] [(.ref b1), (.int (5 : Int32))])) rfl rfl (hb hby dA_5)
  obtain ⟨cl3, Ar3, q3, S3, M3, H3, U3⟩ := id V_q1
  have hc9_4 : ¬ ((5 : Int32) = (16 : Int32)) := (by decide)
  obtain ⟨T5, X5, e5, st5⟩ := getF X2 hx hZ hown (host := "") (Or.inl (hw _ (List.mem_of_getElem? (i := 21) rfl))) Via.refl e2 F_s (g := (mkF m 31 #[.val (.ref b1), .val (.long y1), .second, .unset] [(.ref b1), (.ref b1)])) rfl rfl (hb hby dA_31)
  obtain ⟨T6, h6, X6, e6, W6, st6⟩ := putF X5 hx hZ hown (host := "") (Or.inl (hw _ (List.mem_of_getElem? (i := 21) rfl))) Via.refl e5 F_s E_b1 (Or.inl (hw _ (List.mem_of_getElem? (i := 22) rfl))) (hw _ (List.mem_of_getElem? (i := 6) rfl)) (ty := .int) (by decide) rfl rfl (g := (mkF m 37 #[.val (.ref b1), .val (.long y1), .second, .unset] [(.int (6 : Int32)), (.ref b1), (.int (5 : Int32))])) rfl rfl (hb hby dA_37)
  have N6 := Fr.snoc X6 N0 lo_b1
  obtain ⟨lc6, X6, N6⟩ := own_lc X6 N6
  have K6 := K0.wr W6 (Or.inl (List.mem_of_getElem? (i := 0) rfl))
  have F7 : Fld Z h6 b1 "com/example/kdata/kdata/LongHeap" "size" "I" (.int (6 : Int32)) := F_s.same W6
  have F8 := F_d.other W6 (Or.inr (slot_ne (Or.inl (hw _ (List.mem_of_getElem? (i := 15) rfl))) (Or.inl (hw _ (List.mem_of_getElem? (i := 22) rfl))) (by decide) (t := (.array .long)) (t' := .int) (by decide) (by decide)))
  have E9 := E_b1.wr W6
  have V10 := V_q1.other W6 (Nat.ne_of_gt lt_q)
  have Z6 : n0 ≤ h6.size := by rw [W6.size]; exact Z0
  have hc42_11 : (0 : Int32) < (5 : Int32) := (by decide)
  obtain ⟨T12, X12, e12, st12⟩ := getF X6 hx hZ hown (host := "") (Or.inl (hw _ (List.mem_of_getElem? (i := 14) rfl))) Via.refl e6 F8 (g := (mkF m 46 #[.val (.ref b1), .val (.long y1), .second, .val (.int (5 : Int32))] [(.ref b1)])) rfl rfl (hb hby dA_46)
  obtain ⟨cl13, Ar13, q13, S13, M13, H13, U13⟩ := id V10
  have hi14 : ¬ (2 : Int32) < 0 ∧ (2 : Int32).toNatClampNeg < (16 : Int32).toNatClampNeg := by decide
  have ha14 : cl13.slots[(2 : Int32).toNatClampNeg]? = some (.long x2) := H13 _ (by rw [S13]; exact hi14.2)
  refine own_go (b := T12.setTop (mkF m 57 #[.val (.ref b1), .val (.long y1), .second, .val (.int (5 : Int32))] [(.int (lcmpW x2 y1))])) (fun t k => ?_) ?_
  · show Steps p.tables e below (s₁.setTop (mkF m 0 #[.val (.ref b1), .val (.long y1), .second, .unset] [])) _
    refine XS.aloadN X0.here hx rfl (hb hby dA_0) rfl rfl ?_
    show Steps p.tables e below (s₁.setTop (mkF m 1 #[.val (.ref b1), .val (.long y1), .second, .unset] [(.ref b1)])) _
    refine st1 _ ?_
    show Steps p.tables e below (T1.setTop (mkF m 4 #[.val (.ref b1), .val (.long y1), .second, .unset] [(.int (5 : Int32))])) _
    refine XS.aloadN X1.here hx rfl (hb hby dA_4) rfl rfl ?_
    show Steps p.tables e below (T1.setTop (mkF m 5 #[.val (.ref b1), .val (.long y1), .second, .unset] [(.ref b1), (.int (5 : Int32))])) _
    refine st2 _ ?_
    show Steps p.tables e below (T2.setTop (mkF m 8 #[.val (.ref b1), .val (.long y1), .second, .unset] [(.ref q1), (.int (5 : Int32))])) _
    refine X2.arraylength hx (cell := cl3) (by rw [e2]; exact Ar3.1) (State.isArrayOf_alike hZ.alike Ar3.2.1) (g := (mkF m 8 #[.val (.ref b1), .val (.long y1), .second, .unset] [(.ref q1), (.int (5 : Int32))])) rfl (rest := [(.int (5 : Int32))]) rfl (hb hby dA_8) _ ?_
    rw [len_of S3 M3]
    show Steps p.tables e below (T2.setTop (mkF m 9 #[.val (.ref b1), .val (.long y1), .second, .unset] [(.int (16 : Int32)), (.int (5 : Int32))])) _
    refine XS.icmpYes X2.here hx rfl (pc0 := 9) (pc' := 29) rfl (hb hby dA_9) rfl (feq hc9_4).2 (by decide) (by decide) ?_
    show Steps p.tables e below (T2.setTop (mkF m 29 #[.val (.ref b1), .val (.long y1), .second, .unset] [])) _
    refine XS.aloadN X2.here hx rfl (hb hby dA_29) rfl rfl ?_
    show Steps p.tables e below (T2.setTop (mkF m 30 #[.val (.ref b1), .val (.long y1), .second, .unset] [(.ref b1)])) _
    refine XS.dup X2.here hx rfl (hb hby dA_30) rfl rfl ?_
    show Steps p.tables e below (T2.setTop (mkF m 31 #[.val (.ref b1), .val (.long y1), .second, .unset] [(.ref b1), (.ref b1)])) _
    refine st5 _ ?_
    show Steps p.tables e below (T5.setTop (mkF m 34 #[.val (.ref b1), .val (.long y1), .second, .unset] [(.int (5 : Int32)), (.ref b1)])) _
    refine XS.dupX1 X5.here hx rfl (hb hby dA_34) rfl rfl rfl ?_
    show Steps p.tables e below (T5.setTop (mkF m 35 #[.val (.ref b1), .val (.long y1), .second, .unset] [(.int (5 : Int32)), (.ref b1), (.int (5 : Int32))])) _
    refine XS.iconst X5.here hx rfl (hb hby dA_35) ?_
    show Steps p.tables e below (T5.setTop (mkF m 36 #[.val (.ref b1), .val (.long y1), .second, .unset] [(.int (1 : Int32)), (.int (5 : Int32)), (.ref b1), (.int (5 : Int32))])) _
    refine XS.iadd X5.here hx rfl (hb hby dA_36) rfl ?_
    show Steps p.tables e below (T5.setTop (mkF m 37 #[.val (.ref b1), .val (.long y1), .second, .unset] [(.int (6 : Int32)), (.ref b1), (.int (5 : Int32))])) _
    refine st6 _ ?_
    show Steps p.tables e below (T6.setTop (mkF m 40 #[.val (.ref b1), .val (.long y1), .second, .unset] [(.int (5 : Int32))])) _
    refine XS.istoreN X6.here hx rfl (hb hby dA_40) rfl (l' := #[.val (.ref b1), .val (.long y1), .second, .val (.int (5 : Int32))]) rfl ?_
    show Steps p.tables e below (T6.setTop (mkF m 41 #[.val (.ref b1), .val (.long y1), .second, .val (.int (5 : Int32))] [])) _
    refine XS.iloadN X6.here hx rfl (hb hby dA_41) rfl ?_
    show Steps p.tables e below (T6.setTop (mkF m 42 #[.val (.ref b1), .val (.long y1), .second, .val (.int (5 : Int32))] [(.int (5 : Int32))])) _
    refine XS.ifNo X6.here hx rfl (hb hby dA_42) rfl ((if0 _ _).trans (tlt hc42_11).2.2.2) ?_
    show Steps p.tables e below (T6.setTop (mkF m 45 #[.val (.ref b1), .val (.long y1), .second, .val (.int (5 : Int32))] [])) _
    refine XS.aloadN X6.here hx rfl (hb hby dA_45) rfl rfl ?_
    show Steps p.tables e below (T6.setTop (mkF m 46 #[.val (.ref b1), .val (.long y1), .second, .val (.int (5 : Int32))] [(.ref b1)])) _
    refine st12 _ ?_
    show Steps p.tables e below (T12.setTop (mkF m 49 #[.val (.ref b1), .val (.long y1), .second, .val (.int (5 : Int32))] [(.ref q1)])) _
    refine XS.iloadN X12.here hx rfl (hb hby dA_49) rfl ?_
    show Steps p.tables e below (T12.setTop (mkF m 50 #[.val (.ref b1), .val (.long y1), .second, .val (.int (5 : Int32))] [(.int (5 : Int32)), (.ref q1)])) _
    refine XS.iconst X12.here hx rfl (hb hby dA_50) ?_
    show Steps p.tables e below (T12.setTop (mkF m 51 #[.val (.ref b1), .val (.long y1), .second, .val (.int (5 : Int32))] [(.int (1 : Int32)), (.int (5 : Int32)), (.ref q1)])) _
    refine XS.isub X12.here hx rfl (hb hby dA_51) rfl ?_
    show Steps p.tables e below (T12.setTop (mkF m 52 #[.val (.ref b1), .val (.long y1), .second, .val (.int (5 : Int32))] [(.int (4 : Int32)), (.ref q1)])) _
    refine XS.iconst X12.here hx rfl (hb hby dA_52) ?_
    show Steps p.tables e below (T12.setTop (mkF m 53 #[.val (.ref b1), .val (.long y1), .second, .val (.int (5 : Int32))] [(.int (1 : Int32)), (.int (4 : Int32)), (.ref q1)])) _
    refine XS.iushr X12.here hx rfl (hb hby dA_53) rfl ?_
    show Steps p.tables e below (T12.setTop (mkF m 54 #[.val (.ref b1), .val (.long y1), .second, .val (.int (5 : Int32))] [(.int (2 : Int32)), (.ref q1)])) _
    refine X12.laload hx (j := (2 : Int32)) (v := (.long x2)) (by rw [e12]; exact Ar13.1) (State.isArrayOf_alike hZ.alike Ar13.2.1) Ar13.2.2 (own_hin S13 hi14) ha14 (g := (mkF m 54 #[.val (.ref b1), .val (.long y1), .second, .val (.int (5 : Int32))] [(.int (2 : Int32)), (.ref q1)])) rfl rfl (hb hby dA_54) _ ?_
    show Steps p.tables e below (T12.setTop (mkF m 55 #[.val (.ref b1), .val (.long y1), .second, .val (.int (5 : Int32))] [(.long x2)])) _
    refine XS.lloadN X12.here hx rfl (hb hby dA_55) rfl ?_
    show Steps p.tables e below (T12.setTop (mkF m 56 #[.val (.ref b1), .val (.long y1), .second, .val (.int (5 : Int32))] [(.long y1), (.long x2)])) _
    refine XS.lcmp X12.here hx rfl (hb hby dA_56) rfl ?_
    show Steps p.tables e below (T12.setTop (mkF m 57 #[.val (.ref b1), .val (.long y1), .second, .val (.int (5 : Int32))] [(.int (lcmpW x2 y1))])) _
    exact k
  by_cases hc57 : y1 < x2
  · obtain ⟨T15, X15, e15, st15⟩ := getF X12 hx hZ hown (host := "") (Or.inl (hw _ (List.mem_of_getElem? (i := 14) rfl))) Via.refl e12 F8 (g := (mkF m 61 #[.val (.ref b1), .val (.long y1), .second, .val (.int (5 : Int32))] [(.ref b1)])) rfl rfl (hb hby dA_61)
    obtain ⟨T16, X16, e16, st16⟩ := getF X15 hx hZ hown (host := "") (Or.inl (hw _ (List.mem_of_getElem? (i := 14) rfl))) Via.refl e15 F8 (g := (mkF m 66 #[.val (.ref b1), .val (.long y1), .second, .val (.int (5 : Int32))] [(.ref b1), (.int (5 : Int32)), (.ref q1)])) rfl rfl (hb hby dA_66)
    have hi17 : ¬ (2 : Int32) < 0 ∧ (2 : Int32).toNatClampNeg < (16 : Int32).toNatClampNeg := by decide
    have ha17 : cl13.slots[(2 : Int32).toNatClampNeg]? = some (.long x2) := H13 _ (by rw [S13]; exact hi17.2)
    obtain ⟨T18, h18, X18, e18, W18, st18⟩ := stJ X16 hx hZ e16 Ar13 (j := (5 : Int32)) (by rw [S13]; decide) (g := (mkF m 75 #[.val (.ref b1), .val (.long y1), .second, .val (.int (5 : Int32))] [(.long x2), (.int (5 : Int32)), (.ref q1)])) rfl rfl (hb hby dA_75)
    have N18 := Fr.snoc X18 N6 lo_q1
    obtain ⟨lc18, X18, N18⟩ := own_lc X18 N18
    have V19 : Arv Z h18 q1 k1 .long (16 : Int32) [(.long x0), (.long x1), (.long x2), (.long x3), (.long x4), (.long x2), (.long (0 : Int64)), (.long (0 : Int64)), (.long (0 : Int64)), (.long (0 : Int64)), (.long (0 : Int64)), (.long (0 : Int64)), (.long (0 : Int64)), (.long (0 : Int64)), (.long (0 : Int64)), (.long (0 : Int64))] (.long (0 : Int64)) := Arv.set Ar13 q13 S13 M13 H13 U13 rfl W18 5 rfl (by show 5 < 16; decide)
    have K18 := K6.wr W18 (Or.inl (List.mem_of_getElem? (i := 1) rfl))
    have F20 := F8.other W18 (Or.inl (Nat.ne_of_lt lt_q))
    have F21 := F7.other W18 (Or.inl (Nat.ne_of_lt lt_q))
    have E22 := E9.wr W18
    have Z18 : n0 ≤ h18.size := by rw [W18.size]; exact Z6
    have hc42_23 : (0 : Int32) < (2 : Int32) := (by decide)
    obtain ⟨T24, X24, e24, st24⟩ := getF X18 hx hZ hown (host := "") (Or.inl (hw _ (List.mem_of_getElem? (i := 14) rfl))) Via.refl e18 F20 (g := (mkF m 46 #[.val (.ref b1), .val (.long y1), .second, .val (.int (2 : Int32))] [(.ref b1)])) rfl rfl (hb hby dA_46)
    obtain ⟨cl25, Ar25, q25, S25, M25, H25, U25⟩ := id V19
    have hi26 : ¬ (0 : Int32) < 0 ∧ (0 : Int32).toNatClampNeg < (16 : Int32).toNatClampNeg := by decide
    have ha26 : cl25.slots[(0 : Int32).toNatClampNeg]? = some (.long x0) := H25 _ (by rw [S25]; exact hi26.2)
    refine own_go (b := T24.setTop (mkF m 57 #[.val (.ref b1), .val (.long y1), .second, .val (.int (2 : Int32))] [(.int (lcmpW x0 y1))])) (fun t k => ?_) ?_
    · show Steps p.tables e below (T12.setTop (mkF m 57 #[.val (.ref b1), .val (.long y1), .second, .val (.int (5 : Int32))] [(.int (lcmpW x2 y1))])) _
      refine XS.ifNo X12.here hx rfl (hb hby dA_57) rfl ((if0 _ _).trans (tlt ((lw_gt x2 y1).mpr hc57)).2.2.2) ?_
      show Steps p.tables e below (T12.setTop (mkF m 60 #[.val (.ref b1), .val (.long y1), .second, .val (.int (5 : Int32))] [])) _
      refine XS.aloadN X12.here hx rfl (hb hby dA_60) rfl rfl ?_
      show Steps p.tables e below (T12.setTop (mkF m 61 #[.val (.ref b1), .val (.long y1), .second, .val (.int (5 : Int32))] [(.ref b1)])) _
      refine st15 _ ?_
      show Steps p.tables e below (T15.setTop (mkF m 64 #[.val (.ref b1), .val (.long y1), .second, .val (.int (5 : Int32))] [(.ref q1)])) _
      refine XS.iloadN X15.here hx rfl (hb hby dA_64) rfl ?_
      show Steps p.tables e below (T15.setTop (mkF m 65 #[.val (.ref b1), .val (.long y1), .second, .val (.int (5 : Int32))] [(.int (5 : Int32)), (.ref q1)])) _
      refine XS.aloadN X15.here hx rfl (hb hby dA_65) rfl rfl ?_
      show Steps p.tables e below (T15.setTop (mkF m 66 #[.val (.ref b1), .val (.long y1), .second, .val (.int (5 : Int32))] [(.ref b1), (.int (5 : Int32)), (.ref q1)])) _
      refine st16 _ ?_
      show Steps p.tables e below (T16.setTop (mkF m 69 #[.val (.ref b1), .val (.long y1), .second, .val (.int (5 : Int32))] [(.ref q1), (.int (5 : Int32)), (.ref q1)])) _
      refine XS.iloadN X16.here hx rfl (hb hby dA_69) rfl ?_
      show Steps p.tables e below (T16.setTop (mkF m 70 #[.val (.ref b1), .val (.long y1), .second, .val (.int (5 : Int32))] [(.int (5 : Int32)), (.ref q1), (.int (5 : Int32)), (.ref q1)])) _
      refine XS.iconst X16.here hx rfl (hb hby dA_70) ?_
      show Steps p.tables e below (T16.setTop (mkF m 71 #[.val (.ref b1), .val (.long y1), .second, .val (.int (5 : Int32))] [(.int (1 : Int32)), (.int (5 : Int32)), (.ref q1), (.int (5 : Int32)), (.ref q1)])) _
      refine XS.isub X16.here hx rfl (hb hby dA_71) rfl ?_
      show Steps p.tables e below (T16.setTop (mkF m 72 #[.val (.ref b1), .val (.long y1), .second, .val (.int (5 : Int32))] [(.int (4 : Int32)), (.ref q1), (.int (5 : Int32)), (.ref q1)])) _
      refine XS.iconst X16.here hx rfl (hb hby dA_72) ?_
      show Steps p.tables e below (T16.setTop (mkF m 73 #[.val (.ref b1), .val (.long y1), .second, .val (.int (5 : Int32))] [(.int (1 : Int32)), (.int (4 : Int32)), (.ref q1), (.int (5 : Int32)), (.ref q1)])) _
      refine XS.iushr X16.here hx rfl (hb hby dA_73) rfl ?_
      show Steps p.tables e below (T16.setTop (mkF m 74 #[.val (.ref b1), .val (.long y1), .second, .val (.int (5 : Int32))] [(.int (2 : Int32)), (.ref q1), (.int (5 : Int32)), (.ref q1)])) _
      refine X16.laload hx (j := (2 : Int32)) (v := (.long x2)) (by rw [e16]; exact Ar13.1) (State.isArrayOf_alike hZ.alike Ar13.2.1) Ar13.2.2 (own_hin S13 hi17) ha17 (g := (mkF m 74 #[.val (.ref b1), .val (.long y1), .second, .val (.int (5 : Int32))] [(.int (2 : Int32)), (.ref q1), (.int (5 : Int32)), (.ref q1)])) rfl rfl (hb hby dA_74) _ ?_
      show Steps p.tables e below (T16.setTop (mkF m 75 #[.val (.ref b1), .val (.long y1), .second, .val (.int (5 : Int32))] [(.long x2), (.int (5 : Int32)), (.ref q1)])) _
      refine st18 _ ?_
      show Steps p.tables e below (T18.setTop (mkF m 76 #[.val (.ref b1), .val (.long y1), .second, .val (.int (5 : Int32))] [])) _
      refine XS.iloadN X18.here hx rfl (hb hby dA_76) rfl ?_
      show Steps p.tables e below (T18.setTop (mkF m 77 #[.val (.ref b1), .val (.long y1), .second, .val (.int (5 : Int32))] [(.int (5 : Int32))])) _
      refine XS.iconst X18.here hx rfl (hb hby dA_77) ?_
      show Steps p.tables e below (T18.setTop (mkF m 78 #[.val (.ref b1), .val (.long y1), .second, .val (.int (5 : Int32))] [(.int (1 : Int32)), (.int (5 : Int32))])) _
      refine XS.isub X18.here hx rfl (hb hby dA_78) rfl ?_
      show Steps p.tables e below (T18.setTop (mkF m 79 #[.val (.ref b1), .val (.long y1), .second, .val (.int (5 : Int32))] [(.int (4 : Int32))])) _
      refine XS.iconst X18.here hx rfl (hb hby dA_79) ?_
      show Steps p.tables e below (T18.setTop (mkF m 80 #[.val (.ref b1), .val (.long y1), .second, .val (.int (5 : Int32))] [(.int (1 : Int32)), (.int (4 : Int32))])) _
      refine XS.iushr X18.here hx rfl (hb hby dA_80) rfl ?_
      show Steps p.tables e below (T18.setTop (mkF m 81 #[.val (.ref b1), .val (.long y1), .second, .val (.int (5 : Int32))] [(.int (2 : Int32))])) _
      refine XS.istoreN X18.here hx rfl (hb hby dA_81) rfl (l' := #[.val (.ref b1), .val (.long y1), .second, .val (.int (2 : Int32))]) rfl ?_
      show Steps p.tables e below (T18.setTop (mkF m 82 #[.val (.ref b1), .val (.long y1), .second, .val (.int (2 : Int32))] [])) _
      refine XS.goto X18.here hx rfl (pc0 := 82) (pc' := 41) rfl (hb hby dA_82) (by decide) (by decide) ?_
      show Steps p.tables e below (T18.setTop (mkF m 41 #[.val (.ref b1), .val (.long y1), .second, .val (.int (2 : Int32))] [])) _
      refine XS.iloadN X18.here hx rfl (hb hby dA_41) rfl ?_
      show Steps p.tables e below (T18.setTop (mkF m 42 #[.val (.ref b1), .val (.long y1), .second, .val (.int (2 : Int32))] [(.int (2 : Int32))])) _
      refine XS.ifNo X18.here hx rfl (hb hby dA_42) rfl ((if0 _ _).trans (tlt hc42_23).2.2.2) ?_
      show Steps p.tables e below (T18.setTop (mkF m 45 #[.val (.ref b1), .val (.long y1), .second, .val (.int (2 : Int32))] [])) _
      refine XS.aloadN X18.here hx rfl (hb hby dA_45) rfl rfl ?_
      show Steps p.tables e below (T18.setTop (mkF m 46 #[.val (.ref b1), .val (.long y1), .second, .val (.int (2 : Int32))] [(.ref b1)])) _
      refine st24 _ ?_
      show Steps p.tables e below (T24.setTop (mkF m 49 #[.val (.ref b1), .val (.long y1), .second, .val (.int (2 : Int32))] [(.ref q1)])) _
      refine XS.iloadN X24.here hx rfl (hb hby dA_49) rfl ?_
      show Steps p.tables e below (T24.setTop (mkF m 50 #[.val (.ref b1), .val (.long y1), .second, .val (.int (2 : Int32))] [(.int (2 : Int32)), (.ref q1)])) _
      refine XS.iconst X24.here hx rfl (hb hby dA_50) ?_
      show Steps p.tables e below (T24.setTop (mkF m 51 #[.val (.ref b1), .val (.long y1), .second, .val (.int (2 : Int32))] [(.int (1 : Int32)), (.int (2 : Int32)), (.ref q1)])) _
      refine XS.isub X24.here hx rfl (hb hby dA_51) rfl ?_
      show Steps p.tables e below (T24.setTop (mkF m 52 #[.val (.ref b1), .val (.long y1), .second, .val (.int (2 : Int32))] [(.int (1 : Int32)), (.ref q1)])) _
      refine XS.iconst X24.here hx rfl (hb hby dA_52) ?_
      show Steps p.tables e below (T24.setTop (mkF m 53 #[.val (.ref b1), .val (.long y1), .second, .val (.int (2 : Int32))] [(.int (1 : Int32)), (.int (1 : Int32)), (.ref q1)])) _
      refine XS.iushr X24.here hx rfl (hb hby dA_53) rfl ?_
      show Steps p.tables e below (T24.setTop (mkF m 54 #[.val (.ref b1), .val (.long y1), .second, .val (.int (2 : Int32))] [(.int (0 : Int32)), (.ref q1)])) _
      refine X24.laload hx (j := (0 : Int32)) (v := (.long x0)) (by rw [e24]; exact Ar25.1) (State.isArrayOf_alike hZ.alike Ar25.2.1) Ar25.2.2 (own_hin S25 hi26) ha26 (g := (mkF m 54 #[.val (.ref b1), .val (.long y1), .second, .val (.int (2 : Int32))] [(.int (0 : Int32)), (.ref q1)])) rfl rfl (hb hby dA_54) _ ?_
      show Steps p.tables e below (T24.setTop (mkF m 55 #[.val (.ref b1), .val (.long y1), .second, .val (.int (2 : Int32))] [(.long x0)])) _
      refine XS.lloadN X24.here hx rfl (hb hby dA_55) rfl ?_
      show Steps p.tables e below (T24.setTop (mkF m 56 #[.val (.ref b1), .val (.long y1), .second, .val (.int (2 : Int32))] [(.long y1), (.long x0)])) _
      refine XS.lcmp X24.here hx rfl (hb hby dA_56) rfl ?_
      show Steps p.tables e below (T24.setTop (mkF m 57 #[.val (.ref b1), .val (.long y1), .second, .val (.int (2 : Int32))] [(.int (lcmpW x0 y1))])) _
      exact k
    by_cases hc57x : y1 < x0
    · obtain ⟨T27, X27, e27, st27⟩ := getF X24 hx hZ hown (host := "") (Or.inl (hw _ (List.mem_of_getElem? (i := 14) rfl))) Via.refl e24 F20 (g := (mkF m 61 #[.val (.ref b1), .val (.long y1), .second, .val (.int (2 : Int32))] [(.ref b1)])) rfl rfl (hb hby dA_61)
      obtain ⟨T28, X28, e28, st28⟩ := getF X27 hx hZ hown (host := "") (Or.inl (hw _ (List.mem_of_getElem? (i := 14) rfl))) Via.refl e27 F20 (g := (mkF m 66 #[.val (.ref b1), .val (.long y1), .second, .val (.int (2 : Int32))] [(.ref b1), (.int (2 : Int32)), (.ref q1)])) rfl rfl (hb hby dA_66)
      have hi29 : ¬ (0 : Int32) < 0 ∧ (0 : Int32).toNatClampNeg < (16 : Int32).toNatClampNeg := by decide
      have ha29 : cl25.slots[(0 : Int32).toNatClampNeg]? = some (.long x0) := H25 _ (by rw [S25]; exact hi29.2)
      obtain ⟨T30, h30, X30, e30, W30, st30⟩ := stJ X28 hx hZ e28 Ar25 (j := (2 : Int32)) (by rw [S25]; decide) (g := (mkF m 75 #[.val (.ref b1), .val (.long y1), .second, .val (.int (2 : Int32))] [(.long x0), (.int (2 : Int32)), (.ref q1)])) rfl rfl (hb hby dA_75)
      have N30 := Fr.snoc X30 N18 lo_q1
      obtain ⟨lc30, X30, N30⟩ := own_lc X30 N30
      have V31 : Arv Z h30 q1 k1 .long (16 : Int32) [(.long x0), (.long x1), (.long x0), (.long x3), (.long x4), (.long x2), (.long (0 : Int64)), (.long (0 : Int64)), (.long (0 : Int64)), (.long (0 : Int64)), (.long (0 : Int64)), (.long (0 : Int64)), (.long (0 : Int64)), (.long (0 : Int64)), (.long (0 : Int64)), (.long (0 : Int64))] (.long (0 : Int64)) := Arv.set Ar25 q25 S25 M25 H25 U25 rfl W30 2 rfl (by show 2 < 16; decide)
      have K30 := K18.wr W30 (Or.inl (List.mem_of_getElem? (i := 1) rfl))
      have F32 := F20.other W30 (Or.inl (Nat.ne_of_lt lt_q))
      have F33 := F21.other W30 (Or.inl (Nat.ne_of_lt lt_q))
      have E34 := E22.wr W30
      have Z30 : n0 ≤ h30.size := by rw [W30.size]; exact Z18
      have hc42_35 : ¬ ((0 : Int32) < (0 : Int32)) := (by decide)
      obtain ⟨T36, X36, e36, st36⟩ := getF X30 hx hZ hown (host := "") (Or.inl (hw _ (List.mem_of_getElem? (i := 14) rfl))) Via.refl e30 F32 (g := (mkF m 86 #[.val (.ref b1), .val (.long y1), .second, .val (.int (0 : Int32))] [(.ref b1)])) rfl rfl (hb hby dA_86)
      obtain ⟨cl37, Ar37, q37, S37, M37, H37, U37⟩ := id V31
      obtain ⟨T38, h38, X38, e38, W38, st38⟩ := stJ X36 hx hZ e36 Ar37 (j := (0 : Int32)) (by rw [S37]; decide) (g := (mkF m 91 #[.val (.ref b1), .val (.long y1), .second, .val (.int (0 : Int32))] [(.long y1), (.int (0 : Int32)), (.ref q1)])) rfl rfl (hb hby dA_91)
      have N38 := Fr.snoc X38 N30 lo_q1
      obtain ⟨lc38, X38, N38⟩ := own_lc X38 N38
      have V39 : Arv Z h38 q1 k1 .long (16 : Int32) [(.long y1), (.long x1), (.long x0), (.long x3), (.long x4), (.long x2), (.long (0 : Int64)), (.long (0 : Int64)), (.long (0 : Int64)), (.long (0 : Int64)), (.long (0 : Int64)), (.long (0 : Int64)), (.long (0 : Int64)), (.long (0 : Int64)), (.long (0 : Int64)), (.long (0 : Int64))] (.long (0 : Int64)) := Arv.set Ar37 q37 S37 M37 H37 U37 rfl W38 0 rfl (by show 0 < 16; decide)
      have K38 := K30.wr W38 (Or.inl (List.mem_of_getElem? (i := 1) rfl))
      have F40 := F32.other W38 (Or.inl (Nat.ne_of_lt lt_q))
      have F41 := F33.other W38 (Or.inl (Nat.ne_of_lt lt_q))
      have E42 := E34.wr W38
      have Z38 : n0 ≤ h38.size := by rw [W38.size]; exact Z30
      refine own_end X38 Bd.notSynchronized (v := none) (fun _ => rfl) (fun fs hr => ?_) e38 ?_ (by decide) (by decide)
      · show Steps p.tables e below (T24.setTop (mkF m 57 #[.val (.ref b1), .val (.long y1), .second, .val (.int (2 : Int32))] [(.int (lcmpW x0 y1))])) _
        refine XS.ifNo X24.here hx rfl (hb hby dA_57) rfl ((if0 _ _).trans (tlt ((lw_gt x0 y1).mpr hc57x)).2.2.2) ?_
        show Steps p.tables e below (T24.setTop (mkF m 60 #[.val (.ref b1), .val (.long y1), .second, .val (.int (2 : Int32))] [])) _
        refine XS.aloadN X24.here hx rfl (hb hby dA_60) rfl rfl ?_
        show Steps p.tables e below (T24.setTop (mkF m 61 #[.val (.ref b1), .val (.long y1), .second, .val (.int (2 : Int32))] [(.ref b1)])) _
        refine st27 _ ?_
        show Steps p.tables e below (T27.setTop (mkF m 64 #[.val (.ref b1), .val (.long y1), .second, .val (.int (2 : Int32))] [(.ref q1)])) _
        refine XS.iloadN X27.here hx rfl (hb hby dA_64) rfl ?_
        show Steps p.tables e below (T27.setTop (mkF m 65 #[.val (.ref b1), .val (.long y1), .second, .val (.int (2 : Int32))] [(.int (2 : Int32)), (.ref q1)])) _
        refine XS.aloadN X27.here hx rfl (hb hby dA_65) rfl rfl ?_
        show Steps p.tables e below (T27.setTop (mkF m 66 #[.val (.ref b1), .val (.long y1), .second, .val (.int (2 : Int32))] [(.ref b1), (.int (2 : Int32)), (.ref q1)])) _
        refine st28 _ ?_
        show Steps p.tables e below (T28.setTop (mkF m 69 #[.val (.ref b1), .val (.long y1), .second, .val (.int (2 : Int32))] [(.ref q1), (.int (2 : Int32)), (.ref q1)])) _
        refine XS.iloadN X28.here hx rfl (hb hby dA_69) rfl ?_
        show Steps p.tables e below (T28.setTop (mkF m 70 #[.val (.ref b1), .val (.long y1), .second, .val (.int (2 : Int32))] [(.int (2 : Int32)), (.ref q1), (.int (2 : Int32)), (.ref q1)])) _
        refine XS.iconst X28.here hx rfl (hb hby dA_70) ?_
        show Steps p.tables e below (T28.setTop (mkF m 71 #[.val (.ref b1), .val (.long y1), .second, .val (.int (2 : Int32))] [(.int (1 : Int32)), (.int (2 : Int32)), (.ref q1), (.int (2 : Int32)), (.ref q1)])) _
        refine XS.isub X28.here hx rfl (hb hby dA_71) rfl ?_
        show Steps p.tables e below (T28.setTop (mkF m 72 #[.val (.ref b1), .val (.long y1), .second, .val (.int (2 : Int32))] [(.int (1 : Int32)), (.ref q1), (.int (2 : Int32)), (.ref q1)])) _
        refine XS.iconst X28.here hx rfl (hb hby dA_72) ?_
        show Steps p.tables e below (T28.setTop (mkF m 73 #[.val (.ref b1), .val (.long y1), .second, .val (.int (2 : Int32))] [(.int (1 : Int32)), (.int (1 : Int32)), (.ref q1), (.int (2 : Int32)), (.ref q1)])) _
        refine XS.iushr X28.here hx rfl (hb hby dA_73) rfl ?_
        show Steps p.tables e below (T28.setTop (mkF m 74 #[.val (.ref b1), .val (.long y1), .second, .val (.int (2 : Int32))] [(.int (0 : Int32)), (.ref q1), (.int (2 : Int32)), (.ref q1)])) _
        refine X28.laload hx (j := (0 : Int32)) (v := (.long x0)) (by rw [e28]; exact Ar25.1) (State.isArrayOf_alike hZ.alike Ar25.2.1) Ar25.2.2 (own_hin S25 hi29) ha29 (g := (mkF m 74 #[.val (.ref b1), .val (.long y1), .second, .val (.int (2 : Int32))] [(.int (0 : Int32)), (.ref q1), (.int (2 : Int32)), (.ref q1)])) rfl rfl (hb hby dA_74) _ ?_
        show Steps p.tables e below (T28.setTop (mkF m 75 #[.val (.ref b1), .val (.long y1), .second, .val (.int (2 : Int32))] [(.long x0), (.int (2 : Int32)), (.ref q1)])) _
        refine st30 _ ?_
        show Steps p.tables e below (T30.setTop (mkF m 76 #[.val (.ref b1), .val (.long y1), .second, .val (.int (2 : Int32))] [])) _
        refine XS.iloadN X30.here hx rfl (hb hby dA_76) rfl ?_
        show Steps p.tables e below (T30.setTop (mkF m 77 #[.val (.ref b1), .val (.long y1), .second, .val (.int (2 : Int32))] [(.int (2 : Int32))])) _
        refine XS.iconst X30.here hx rfl (hb hby dA_77) ?_
        show Steps p.tables e below (T30.setTop (mkF m 78 #[.val (.ref b1), .val (.long y1), .second, .val (.int (2 : Int32))] [(.int (1 : Int32)), (.int (2 : Int32))])) _
        refine XS.isub X30.here hx rfl (hb hby dA_78) rfl ?_
        show Steps p.tables e below (T30.setTop (mkF m 79 #[.val (.ref b1), .val (.long y1), .second, .val (.int (2 : Int32))] [(.int (1 : Int32))])) _
        refine XS.iconst X30.here hx rfl (hb hby dA_79) ?_
        show Steps p.tables e below (T30.setTop (mkF m 80 #[.val (.ref b1), .val (.long y1), .second, .val (.int (2 : Int32))] [(.int (1 : Int32)), (.int (1 : Int32))])) _
        refine XS.iushr X30.here hx rfl (hb hby dA_80) rfl ?_
        show Steps p.tables e below (T30.setTop (mkF m 81 #[.val (.ref b1), .val (.long y1), .second, .val (.int (2 : Int32))] [(.int (0 : Int32))])) _
        refine XS.istoreN X30.here hx rfl (hb hby dA_81) rfl (l' := #[.val (.ref b1), .val (.long y1), .second, .val (.int (0 : Int32))]) rfl ?_
        show Steps p.tables e below (T30.setTop (mkF m 82 #[.val (.ref b1), .val (.long y1), .second, .val (.int (0 : Int32))] [])) _
        refine XS.goto X30.here hx rfl (pc0 := 82) (pc' := 41) rfl (hb hby dA_82) (by decide) (by decide) ?_
        show Steps p.tables e below (T30.setTop (mkF m 41 #[.val (.ref b1), .val (.long y1), .second, .val (.int (0 : Int32))] [])) _
        refine XS.iloadN X30.here hx rfl (hb hby dA_41) rfl ?_
        show Steps p.tables e below (T30.setTop (mkF m 42 #[.val (.ref b1), .val (.long y1), .second, .val (.int (0 : Int32))] [(.int (0 : Int32))])) _
        refine XS.ifYes X30.here hx rfl (pc0 := 42) (pc' := 85) rfl (hb hby dA_42) rfl ((if0 _ _).trans (flt hc42_35).2.2.2) (by decide) (by decide) ?_
        show Steps p.tables e below (T30.setTop (mkF m 85 #[.val (.ref b1), .val (.long y1), .second, .val (.int (0 : Int32))] [])) _
        refine XS.aloadN X30.here hx rfl (hb hby dA_85) rfl rfl ?_
        show Steps p.tables e below (T30.setTop (mkF m 86 #[.val (.ref b1), .val (.long y1), .second, .val (.int (0 : Int32))] [(.ref b1)])) _
        refine st36 _ ?_
        show Steps p.tables e below (T36.setTop (mkF m 89 #[.val (.ref b1), .val (.long y1), .second, .val (.int (0 : Int32))] [(.ref q1)])) _
        refine XS.iloadN X36.here hx rfl (hb hby dA_89) rfl ?_
        show Steps p.tables e below (T36.setTop (mkF m 90 #[.val (.ref b1), .val (.long y1), .second, .val (.int (0 : Int32))] [(.int (0 : Int32)), (.ref q1)])) _
        refine XS.lloadN X36.here hx rfl (hb hby dA_90) rfl ?_
        show Steps p.tables e below (T36.setTop (mkF m 91 #[.val (.ref b1), .val (.long y1), .second, .val (.int (0 : Int32))] [(.long y1), (.int (0 : Int32)), (.ref q1)])) _
        refine st38 _ ?_
        show Steps p.tables e below (T38.setTop (mkF m 92 #[.val (.ref b1), .val (.long y1), .second, .val (.int (0 : Int32))] [])) _
        exact X38.returnOut hx Bd.returns (hb hby dA_92) hr
      · exact ⟨rfl, N38, K38, E42, F40, F41, _, _, _, _, _, _, by rw [own_add_5, if_pos hc57, if_pos hc57x], V39⟩
    · obtain ⟨T43, X43, e43, st43⟩ := getF X24 hx hZ hown (host := "") (Or.inl (hw _ (List.mem_of_getElem? (i := 14) rfl))) Via.refl e24 F20 (g := (mkF m 86 #[.val (.ref b1), .val (.long y1), .second, .val (.int (2 : Int32))] [(.ref b1)])) rfl rfl (hb hby dA_86)
      obtain ⟨T44, h44, X44, e44, W44, st44⟩ := stJ X43 hx hZ e43 Ar25 (j := (2 : Int32)) (by rw [S25]; decide) (g := (mkF m 91 #[.val (.ref b1), .val (.long y1), .second, .val (.int (2 : Int32))] [(.long y1), (.int (2 : Int32)), (.ref q1)])) rfl rfl (hb hby dA_91)
      have N44 := Fr.snoc X44 N18 lo_q1
      obtain ⟨lc44, X44, N44⟩ := own_lc X44 N44
      have V45 : Arv Z h44 q1 k1 .long (16 : Int32) [(.long x0), (.long x1), (.long y1), (.long x3), (.long x4), (.long x2), (.long (0 : Int64)), (.long (0 : Int64)), (.long (0 : Int64)), (.long (0 : Int64)), (.long (0 : Int64)), (.long (0 : Int64)), (.long (0 : Int64)), (.long (0 : Int64)), (.long (0 : Int64)), (.long (0 : Int64))] (.long (0 : Int64)) := Arv.set Ar25 q25 S25 M25 H25 U25 rfl W44 2 rfl (by show 2 < 16; decide)
      have K44 := K18.wr W44 (Or.inl (List.mem_of_getElem? (i := 1) rfl))
      have F46 := F20.other W44 (Or.inl (Nat.ne_of_lt lt_q))
      have F47 := F21.other W44 (Or.inl (Nat.ne_of_lt lt_q))
      have E48 := E22.wr W44
      have Z44 : n0 ≤ h44.size := by rw [W44.size]; exact Z18
      refine own_end X44 Bd.notSynchronized (v := none) (fun _ => rfl) (fun fs hr => ?_) e44 ?_ (by decide) (by decide)
      · show Steps p.tables e below (T24.setTop (mkF m 57 #[.val (.ref b1), .val (.long y1), .second, .val (.int (2 : Int32))] [(.int (lcmpW x0 y1))])) _
        refine XS.ifYes X24.here hx rfl (pc0 := 57) (pc' := 85) rfl (hb hby dA_57) rfl ((if0 _ _).trans (flt (fun q => hc57x ((lw_gt x0 y1).mp q))).2.2.2) (by decide) (by decide) ?_
        show Steps p.tables e below (T24.setTop (mkF m 85 #[.val (.ref b1), .val (.long y1), .second, .val (.int (2 : Int32))] [])) _
        refine XS.aloadN X24.here hx rfl (hb hby dA_85) rfl rfl ?_
        show Steps p.tables e below (T24.setTop (mkF m 86 #[.val (.ref b1), .val (.long y1), .second, .val (.int (2 : Int32))] [(.ref b1)])) _
        refine st43 _ ?_
        show Steps p.tables e below (T43.setTop (mkF m 89 #[.val (.ref b1), .val (.long y1), .second, .val (.int (2 : Int32))] [(.ref q1)])) _
        refine XS.iloadN X43.here hx rfl (hb hby dA_89) rfl ?_
        show Steps p.tables e below (T43.setTop (mkF m 90 #[.val (.ref b1), .val (.long y1), .second, .val (.int (2 : Int32))] [(.int (2 : Int32)), (.ref q1)])) _
        refine XS.lloadN X43.here hx rfl (hb hby dA_90) rfl ?_
        show Steps p.tables e below (T43.setTop (mkF m 91 #[.val (.ref b1), .val (.long y1), .second, .val (.int (2 : Int32))] [(.long y1), (.int (2 : Int32)), (.ref q1)])) _
        refine st44 _ ?_
        show Steps p.tables e below (T44.setTop (mkF m 92 #[.val (.ref b1), .val (.long y1), .second, .val (.int (2 : Int32))] [])) _
        exact X44.returnOut hx Bd.returns (hb hby dA_92) hr
      · exact ⟨rfl, N44, K44, E48, F46, F47, _, _, _, _, _, _, by rw [own_add_5, if_pos hc57, if_neg hc57x], V45⟩
  · obtain ⟨T49, X49, e49, st49⟩ := getF X12 hx hZ hown (host := "") (Or.inl (hw _ (List.mem_of_getElem? (i := 14) rfl))) Via.refl e12 F8 (g := (mkF m 86 #[.val (.ref b1), .val (.long y1), .second, .val (.int (5 : Int32))] [(.ref b1)])) rfl rfl (hb hby dA_86)
    obtain ⟨T50, h50, X50, e50, W50, st50⟩ := stJ X49 hx hZ e49 Ar13 (j := (5 : Int32)) (by rw [S13]; decide) (g := (mkF m 91 #[.val (.ref b1), .val (.long y1), .second, .val (.int (5 : Int32))] [(.long y1), (.int (5 : Int32)), (.ref q1)])) rfl rfl (hb hby dA_91)
    have N50 := Fr.snoc X50 N6 lo_q1
    obtain ⟨lc50, X50, N50⟩ := own_lc X50 N50
    have V51 : Arv Z h50 q1 k1 .long (16 : Int32) [(.long x0), (.long x1), (.long x2), (.long x3), (.long x4), (.long y1), (.long (0 : Int64)), (.long (0 : Int64)), (.long (0 : Int64)), (.long (0 : Int64)), (.long (0 : Int64)), (.long (0 : Int64)), (.long (0 : Int64)), (.long (0 : Int64)), (.long (0 : Int64)), (.long (0 : Int64))] (.long (0 : Int64)) := Arv.set Ar13 q13 S13 M13 H13 U13 rfl W50 5 rfl (by show 5 < 16; decide)
    have K50 := K6.wr W50 (Or.inl (List.mem_of_getElem? (i := 1) rfl))
    have F52 := F8.other W50 (Or.inl (Nat.ne_of_lt lt_q))
    have F53 := F7.other W50 (Or.inl (Nat.ne_of_lt lt_q))
    have E54 := E9.wr W50
    have Z50 : n0 ≤ h50.size := by rw [W50.size]; exact Z6
    refine own_end X50 Bd.notSynchronized (v := none) (fun _ => rfl) (fun fs hr => ?_) e50 ?_ (by decide) (by decide)
    · show Steps p.tables e below (T12.setTop (mkF m 57 #[.val (.ref b1), .val (.long y1), .second, .val (.int (5 : Int32))] [(.int (lcmpW x2 y1))])) _
      refine XS.ifYes X12.here hx rfl (pc0 := 57) (pc' := 85) rfl (hb hby dA_57) rfl ((if0 _ _).trans (flt (fun q => hc57 ((lw_gt x2 y1).mp q))).2.2.2) (by decide) (by decide) ?_
      show Steps p.tables e below (T12.setTop (mkF m 85 #[.val (.ref b1), .val (.long y1), .second, .val (.int (5 : Int32))] [])) _
      refine XS.aloadN X12.here hx rfl (hb hby dA_85) rfl rfl ?_
      show Steps p.tables e below (T12.setTop (mkF m 86 #[.val (.ref b1), .val (.long y1), .second, .val (.int (5 : Int32))] [(.ref b1)])) _
      refine st49 _ ?_
      show Steps p.tables e below (T49.setTop (mkF m 89 #[.val (.ref b1), .val (.long y1), .second, .val (.int (5 : Int32))] [(.ref q1)])) _
      refine XS.iloadN X49.here hx rfl (hb hby dA_89) rfl ?_
      show Steps p.tables e below (T49.setTop (mkF m 90 #[.val (.ref b1), .val (.long y1), .second, .val (.int (5 : Int32))] [(.int (5 : Int32)), (.ref q1)])) _
      refine XS.lloadN X49.here hx rfl (hb hby dA_90) rfl ?_
      show Steps p.tables e below (T49.setTop (mkF m 91 #[.val (.ref b1), .val (.long y1), .second, .val (.int (5 : Int32))] [(.long y1), (.int (5 : Int32)), (.ref q1)])) _
      refine st50 _ ?_
      show Steps p.tables e below (T50.setTop (mkF m 92 #[.val (.ref b1), .val (.long y1), .second, .val (.int (5 : Int32))] [])) _
      exact X50.returnOut hx Bd.returns (hb hby dA_92) hr
    · exact ⟨rfl, N50, K50, E54, F52, F53, _, _, _, _, _, _, by rw [own_add_5, if_neg hc57], V51⟩
def own_rem_6 (x0 : Int64) (x1 : Int64) (x2 : Int64) (x3 : Int64) (x4 : Int64) (x5 : Int64) : List Int64 :=
  if x2 < x1 then
    if x2 < x5 then
      [x2, x1, x5, x3, x4, x5]
    else
      [x5, x1, x2, x3, x4, x5]
  else
    if x1 < x5 then
      if x4 < x3 then
        if x4 < x5 then
          [x1, x4, x2, x3, x5, x5]
        else
          [x1, x5, x2, x3, x4, x5]
      else
        if x3 < x5 then
          [x1, x3, x2, x5, x4, x5]
        else
          [x1, x5, x2, x3, x4, x5]
    else
      [x5, x1, x2, x3, x4, x5]
theorem dR_0 : decode prog_81_method_4_code 0 = .ok (.aload_n 0, 1) := by decide +kernel
theorem dR_1 : decode prog_81_method_4_code 1 = .ok (.getfield 7, 3) := by decide +kernel
theorem dR_4 : decode prog_81_method_4_code 4 = .ok (.iconst 0, 1) := by decide +kernel
theorem dR_5 : decode prog_81_method_4_code 5 = .ok (.laload, 1) := by decide +kernel
theorem dR_6 : decode prog_81_method_4_code 6 = .ok (.lstore_n 1, 1) := by decide +kernel
theorem dR_7 : decode prog_81_method_4_code 7 = .ok (.aload_n 0, 1) := by decide +kernel
theorem dR_8 : decode prog_81_method_4_code 8 = .ok (.getfield 7, 3) := by decide +kernel
theorem dR_11 : decode prog_81_method_4_code 11 = .ok (.aload_n 0, 1) := by decide +kernel
theorem dR_12 : decode prog_81_method_4_code 12 = .ok (.dup, 1) := by decide +kernel
theorem dR_13 : decode prog_81_method_4_code 13 = .ok (.getfield 13, 3) := by decide +kernel
theorem dR_16 : decode prog_81_method_4_code 16 = .ok (.iconst 1, 1) := by decide +kernel
theorem dR_17 : decode prog_81_method_4_code 17 = .ok (.isub, 1) := by decide +kernel
theorem dR_18 : decode prog_81_method_4_code 18 = .ok (.dup_x1, 1) := by decide +kernel
theorem dR_19 : decode prog_81_method_4_code 19 = .ok (.putfield 13, 3) := by decide +kernel
theorem dR_22 : decode prog_81_method_4_code 22 = .ok (.laload, 1) := by decide +kernel
theorem dR_23 : decode prog_81_method_4_code 23 = .ok (.lstore_n 3, 1) := by decide +kernel
theorem dR_24 : decode prog_81_method_4_code 24 = .ok (.iconst 0, 1) := by decide +kernel
theorem dR_25 : decode prog_81_method_4_code 25 = .ok (.istore 5, 2) := by decide +kernel
theorem dR_27 : decode prog_81_method_4_code 27 = .ok (.iconst 1, 1) := by decide +kernel
theorem dR_28 : decode prog_81_method_4_code 28 = .ok (.istore 6, 2) := by decide +kernel
theorem dR_30 : decode prog_81_method_4_code 30 = .ok (.iload 6, 2) := by decide +kernel
theorem dR_32 : decode prog_81_method_4_code 32 = .ok (.aload_n 0, 1) := by decide +kernel
theorem dR_33 : decode prog_81_method_4_code 33 = .ok (.getfield 13, 3) := by decide +kernel
theorem dR_36 : decode prog_81_method_4_code 36 = .ok (.if_icmp .ge 81, 3) := by decide +kernel
theorem dR_39 : decode prog_81_method_4_code 39 = .ok (.iload 6, 2) := by decide +kernel
theorem dR_41 : decode prog_81_method_4_code 41 = .ok (.iconst 1, 1) := by decide +kernel
theorem dR_42 : decode prog_81_method_4_code 42 = .ok (.iadd, 1) := by decide +kernel
theorem dR_43 : decode prog_81_method_4_code 43 = .ok (.aload_n 0, 1) := by decide +kernel
theorem dR_44 : decode prog_81_method_4_code 44 = .ok (.getfield 13, 3) := by decide +kernel
theorem dR_47 : decode prog_81_method_4_code 47 = .ok (.if_icmp .ge 26, 3) := by decide +kernel
theorem dR_50 : decode prog_81_method_4_code 50 = .ok (.aload_n 0, 1) := by decide +kernel
theorem dR_51 : decode prog_81_method_4_code 51 = .ok (.getfield 7, 3) := by decide +kernel
theorem dR_54 : decode prog_81_method_4_code 54 = .ok (.iload 6, 2) := by decide +kernel
theorem dR_56 : decode prog_81_method_4_code 56 = .ok (.iconst 1, 1) := by decide +kernel
theorem dR_57 : decode prog_81_method_4_code 57 = .ok (.iadd, 1) := by decide +kernel
theorem dR_58 : decode prog_81_method_4_code 58 = .ok (.laload, 1) := by decide +kernel
theorem dR_59 : decode prog_81_method_4_code 59 = .ok (.aload_n 0, 1) := by decide +kernel
theorem dR_60 : decode prog_81_method_4_code 60 = .ok (.getfield 7, 3) := by decide +kernel
theorem dR_63 : decode prog_81_method_4_code 63 = .ok (.iload 6, 2) := by decide +kernel
theorem dR_65 : decode prog_81_method_4_code 65 = .ok (.laload, 1) := by decide +kernel
theorem dR_66 : decode prog_81_method_4_code 66 = .ok (.lcmp, 1) := by decide +kernel
theorem dR_67 : decode prog_81_method_4_code 67 = .ok (.ifCond .ge 6, 3) := by decide +kernel
theorem dR_70 : decode prog_81_method_4_code 70 = .ok (.iinc 6 1, 3) := by decide +kernel
theorem dR_73 : decode prog_81_method_4_code 73 = .ok (.aload_n 0, 1) := by decide +kernel
theorem dR_74 : decode prog_81_method_4_code 74 = .ok (.getfield 7, 3) := by decide +kernel
theorem dR_77 : decode prog_81_method_4_code 77 = .ok (.iload 6, 2) := by decide +kernel
theorem dR_79 : decode prog_81_method_4_code 79 = .ok (.laload, 1) := by decide +kernel
theorem dR_80 : decode prog_81_method_4_code 80 = .ok (.lload_n 3, 1) := by decide +kernel
theorem dR_81 : decode prog_81_method_4_code 81 = .ok (.lcmp, 1) := by decide +kernel
theorem dR_82 : decode prog_81_method_4_code 82 = .ok (.ifCond .lt 6, 3) := by decide +kernel
theorem dR_85 : decode prog_81_method_4_code 85 = .ok (.goto 32, 3) := by decide +kernel
theorem dR_88 : decode prog_81_method_4_code 88 = .ok (.aload_n 0, 1) := by decide +kernel
theorem dR_89 : decode prog_81_method_4_code 89 = .ok (.getfield 7, 3) := by decide +kernel
theorem dR_92 : decode prog_81_method_4_code 92 = .ok (.iload 5, 2) := by decide +kernel
theorem dR_94 : decode prog_81_method_4_code 94 = .ok (.aload_n 0, 1) := by decide +kernel
theorem dR_95 : decode prog_81_method_4_code 95 = .ok (.getfield 7, 3) := by decide +kernel
theorem dR_98 : decode prog_81_method_4_code 98 = .ok (.iload 6, 2) := by decide +kernel
theorem dR_100 : decode prog_81_method_4_code 100 = .ok (.laload, 1) := by decide +kernel
theorem dR_101 : decode prog_81_method_4_code 101 = .ok (.lastore, 1) := by decide +kernel
theorem dR_102 : decode prog_81_method_4_code 102 = .ok (.iload 6, 2) := by decide +kernel
theorem dR_104 : decode prog_81_method_4_code 104 = .ok (.istore 5, 2) := by decide +kernel
theorem dR_106 : decode prog_81_method_4_code 106 = .ok (.iconst 2, 1) := by decide +kernel
theorem dR_107 : decode prog_81_method_4_code 107 = .ok (.iload 5, 2) := by decide +kernel
theorem dR_109 : decode prog_81_method_4_code 109 = .ok (.imul, 1) := by decide +kernel
theorem dR_110 : decode prog_81_method_4_code 110 = .ok (.iconst 1, 1) := by decide +kernel
theorem dR_111 : decode prog_81_method_4_code 111 = .ok (.iadd, 1) := by decide +kernel
theorem dR_112 : decode prog_81_method_4_code 112 = .ok (.istore 6, 2) := by decide +kernel
theorem dR_114 : decode prog_81_method_4_code 114 = .ok (.goto (-84), 3) := by decide +kernel
theorem dR_117 : decode prog_81_method_4_code 117 = .ok (.aload_n 0, 1) := by decide +kernel
theorem dR_118 : decode prog_81_method_4_code 118 = .ok (.getfield 7, 3) := by decide +kernel
theorem dR_121 : decode prog_81_method_4_code 121 = .ok (.iload 5, 2) := by decide +kernel
theorem dR_123 : decode prog_81_method_4_code 123 = .ok (.lload_n 3, 1) := by decide +kernel
theorem dR_124 : decode prog_81_method_4_code 124 = .ok (.lastore, 1) := by decide +kernel
theorem dR_125 : decode prog_81_method_4_code 125 = .ok (.lload_n 1, 1) := by decide +kernel
theorem dR_126 : decode prog_81_method_4_code 126 = .ok (.lreturn, 1) := by decide +kernel
theorem pn_r6 : plainName "com/example/kdata/kdata/LongHeap" = true := by first | (simp [plainName, overriddenIn]; done) | decide +kernel
theorem ef_r6 (m : MethodId) (x0 : Addr) : entryFrame m #[(.ref x0)] 7 = mkF m 0 #[.val (.ref x0), .unset, .unset, .unset, .unset, .unset, .unset] [] := by first | (simp [entryFrame, mkF, argsToLocals, Value.category]; done) | rfl
def Qr6 (Z : State) (b1 q1 : Addr) (k1 : ClassId) (x0 : Int64) (x1 : Int64) (x2 : Int64) (x3 : Int64) (x4 : Int64) (x5 : Int64) (h0 : Heap) (n0 : Nat) (v : Option Value) (h : Heap) (L : List Loc) : Prop := v = some (.long x0) ∧ Fr n0 L ∧ Keep h0 h [b1, q1] ∧ Exa Z h b1 "com/example/kdata/kdata/LongHeap" ∧ Fld Z h b1 "com/example/kdata/kdata/LongHeap" "data" "[J" (.ref q1) ∧ Fld Z h b1 "com/example/kdata/kdata/LongHeap" "size" "I" (.int (5 : Int32)) ∧ ∃ z0 z1 z2 z3 z4 z5 : Int64, [z0, z1, z2, z3, z4, z5] = own_rem_6 x0 x1 x2 x3 x4 x5 ∧ Arv Z h q1 k1 .long (16 : Int32) [(.long z0), (.long z1), (.long z2), (.long z3), (.long z4), (.long z5), (.long (0 : Int64)), (.long (0 : Int64)), (.long (0 : Int64)), (.long (0 : Int64)), (.long (0 : Int64)), (.long (0 : Int64)), (.long (0 : Int64)), (.long (0 : Int64)), (.long (0 : Int64)), (.long (0 : Int64))] (.long (0 : Int64))
set_option maxRecDepth 65536 in
set_option maxHeartbeats 40000000 in
theorem rmr6 (l : Launch) (Z : State) (a0 : Array Value) (hw : ∀ d ∈ tables_1, d.before a0 Z = true) (ws : List Jvm.Cond)  (b1 q1 : Addr) (k1 : ClassId) (x0 : Int64) (x1 : Int64) (x2 : Int64) (x3 : Int64) (x4 : Int64) (x5 : Int64) (h0 : Heap) (n0 : Nat) (Z0 : n0 ≤ h0.size) (F_d : Fld Z h0 b1 "com/example/kdata/kdata/LongHeap" "data" "[J" (.ref q1)) (F_s : Fld Z h0 b1 "com/example/kdata/kdata/LongHeap" "size" "I" (.int (6 : Int32))) (E_b1 : Exa Z h0 b1 "com/example/kdata/kdata/LongHeap") (lo_b1 : n0 ≤ b1) (lo_q1 : n0 ≤ q1) (lt_q : b1 < q1) (V_q1 : Arv Z h0 q1 k1 .long (16 : Int32) [(.long x0), (.long x1), (.long x2), (.long x3), (.long x4), (.long x5), (.long (0 : Int64)), (.long (0 : Int64)), (.long (0 : Int64)), (.long (0 : Int64)), (.long (0 : Int64)), (.long (0 : Int64)), (.long (0 : Int64)), (.long (0 : Int64)), (.long (0 : Int64)), (.long (0 : Int64))] (.long (0 : Int64))) :
    MetFree l (⟨"com/example/kdata/kdata/LongHeap", "removeLeast", "()J"⟩ : MethodName) (head1 (Jvm.Cond.code (⟨"com/example/kdata/kdata/LongHeap", "removeLeast", "()J"⟩ : MethodName) prog_81_method_4_code 7 (some .long) :: ws) ({ frames := 0, cells := 0, slots := 0, locals := 0 } : Room)) (fun a U => a = #[(.ref b1)] ∧ Z.Warmed39 U.vm ∧ U.heap = h0) (fun _ _ _ _ _ => True) (fun _ U o U' => ∃ v L, o = .returned v ∧ Qr6 Z b1 q1 k1 x0 x1 x2 x3 x4 x5 h0 n0 v U'.heap L ∧ FrameEnd U o U' L ({ frames := 0, cells := 0, slots := 0, locals := 0 } : Room).cells ({ frames := 0, cells := 0, slots := 0, locals := 0 } : Room).slots) := by
  refine MetFree.of_bodySF (plainFor_of_name pn_r6) hisR ?_
  intro p e s m args below meth c s₁ Bd hml0 hP hK
  obtain ⟨rfl, hZ, hh⟩ := hP
  have hx := Bd.exec
  have hby := Bd.bytes
  have hml : c.maxLocals = 7 := hml0
  have hown : s.vm.findClass "com/example/kdata/kdata/LongHeap" = some m.cls := findClass_of_methodNamed Bd.named
  have hnm := (name_of_methodNamed Bd.named Bd.method).1
  have X0 : Stand p l e ({ frames := 0, cells := 0, slots := 0, locals := 0 } : Room) s m #[(.ref b1)] below meth c s₁ [] 0 0 := Stand.of_body Bd
  have e0 : s₁.heap = h0 := by rw [← hh, Bd.state]; rfl
  have N0 := Fr.nil n0
  show own_Go p e below s (Qr6 Z b1 q1 k1 x0 x1 x2 x3 x4 x5 h0 n0) ({ frames := 0, cells := 0, slots := 0, locals := 0 } : Room).cells ({ frames := 0, cells := 0, slots := 0, locals := 0 } : Room).slots (s₁.setTop (entryFrame m #[(.ref b1)] 7))
  refine own_go (b := s₁.setTop (mkF m 0 #[.val (.ref b1), .unset, .unset, .unset, .unset, .unset, .unset] [])) (fun t k => castTop (ef_r6 m b1) k) ?_
  have K0 := Keep.refl h0 [b1, q1]
  obtain ⟨T1, X1, e1, st1⟩ := getF X0 hx hZ hown (host := "") (Or.inl (hw _ (List.mem_of_getElem? (i := 14) rfl))) Via.refl e0 F_d (g := (mkF m 1 #[.val (.ref b1), .unset, .unset, .unset, .unset, .unset, .unset] [(.ref b1)])) rfl rfl (hb hby dR_1)
  obtain ⟨cl2, Ar2, q2, S2, M2, H2, U2⟩ := id V_q1
  have hi3 : ¬ (0 : Int32) < 0 ∧ (0 : Int32).toNatClampNeg < (16 : Int32).toNatClampNeg := by decide
  have ha3 : cl2.slots[(0 : Int32).toNatClampNeg]? = some (.long x0) := H2 _ (by rw [S2]; exact hi3.2)
  obtain ⟨T4, X4, e4, st4⟩ := getF X1 hx hZ hown (host := "") (Or.inl (hw _ (List.mem_of_getElem? (i := 14) rfl))) Via.refl e1 F_d (g := (mkF m 8 #[.val (.ref b1), .val (.long x0), .second, .unset, .unset, .unset, .unset] [(.ref b1)])) rfl rfl (hb hby dR_8)
  obtain ⟨T5, X5, e5, st5⟩ := getF X4 hx hZ hown (host := "") (Or.inl (hw _ (List.mem_of_getElem? (i := 21) rfl))) Via.refl e4 F_s (g := (mkF m 13 #[.val (.ref b1), .val (.long x0), .second, .unset, .unset, .unset, .unset] [(.ref b1), (.ref b1), (.ref q1)])) rfl rfl (hb hby dR_13)
  obtain ⟨T6, h6, X6, e6, W6, st6⟩ := putF X5 hx hZ hown (host := "") (Or.inl (hw _ (List.mem_of_getElem? (i := 21) rfl))) Via.refl e5 F_s E_b1 (Or.inl (hw _ (List.mem_of_getElem? (i := 22) rfl))) (hw _ (List.mem_of_getElem? (i := 6) rfl)) (ty := .int) (by decide) rfl rfl (g := (mkF m 19 #[.val (.ref b1), .val (.long x0), .second, .unset, .unset, .unset, .unset] [(.int (5 : Int32)), (.ref b1), (.int (5 : Int32)), (.ref q1)])) rfl rfl (hb hby dR_19)
  have N6 := Fr.snoc X6 N0 lo_b1
  obtain ⟨lc6, X6, N6⟩ := own_lc X6 N6
  have K6 := K0.wr W6 (Or.inl (List.mem_of_getElem? (i := 0) rfl))
  have F7 : Fld Z h6 b1 "com/example/kdata/kdata/LongHeap" "size" "I" (.int (5 : Int32)) := F_s.same W6
  have F8 := F_d.other W6 (Or.inr (slot_ne (Or.inl (hw _ (List.mem_of_getElem? (i := 15) rfl))) (Or.inl (hw _ (List.mem_of_getElem? (i := 22) rfl))) (by decide) (t := (.array .long)) (t' := .int) (by decide) (by decide)))
  have E9 := E_b1.wr W6
  have V10 := V_q1.other W6 (Nat.ne_of_gt lt_q)
  have Z6 : n0 ≤ h6.size := by rw [W6.size]; exact Z0
  obtain ⟨cl11, Ar11, q11, S11, M11, H11, U11⟩ := id V10
  have hi12 : ¬ (5 : Int32) < 0 ∧ (5 : Int32).toNatClampNeg < (16 : Int32).toNatClampNeg := by decide
  have ha12 : cl11.slots[(5 : Int32).toNatClampNeg]? = some (.long x5) := H11 _ (by rw [S11]; exact hi12.2)
  obtain ⟨T13, X13, e13, st13⟩ := getF X6 hx hZ hown (host := "") (Or.inl (hw _ (List.mem_of_getElem? (i := 21) rfl))) Via.refl e6 F7 (g := (mkF m 33 #[.val (.ref b1), .val (.long x0), .second, .val (.long x5), .second, .val (.int (0 : Int32)), .val (.int (1 : Int32))] [(.ref b1), (.int (1 : Int32))])) rfl rfl (hb hby dR_33)
  have hc36_14 : (1 : Int32) < (5 : Int32) := (by decide)
  obtain ⟨T15, X15, e15, st15⟩ := getF X13 hx hZ hown (host := "") (Or.inl (hw _ (List.mem_of_getElem? (i := 21) rfl))) Via.refl e13 F7 (g := (mkF m 44 #[.val (.ref b1), .val (.long x0), .second, .val (.long x5), .second, .val (.int (0 : Int32)), .val (.int (1 : Int32))] [(.ref b1), (.int (2 : Int32))])) rfl rfl (hb hby dR_44)
  have hc47_16 : (2 : Int32) < (5 : Int32) := (by decide)
  obtain ⟨T17, X17, e17, st17⟩ := getF X15 hx hZ hown (host := "") (Or.inl (hw _ (List.mem_of_getElem? (i := 14) rfl))) Via.refl e15 F8 (g := (mkF m 51 #[.val (.ref b1), .val (.long x0), .second, .val (.long x5), .second, .val (.int (0 : Int32)), .val (.int (1 : Int32))] [(.ref b1)])) rfl rfl (hb hby dR_51)
  have hi18 : ¬ (2 : Int32) < 0 ∧ (2 : Int32).toNatClampNeg < (16 : Int32).toNatClampNeg := by decide
  have ha18 : cl11.slots[(2 : Int32).toNatClampNeg]? = some (.long x2) := H11 _ (by rw [S11]; exact hi18.2)
  obtain ⟨T19, X19, e19, st19⟩ := getF X17 hx hZ hown (host := "") (Or.inl (hw _ (List.mem_of_getElem? (i := 14) rfl))) Via.refl e17 F8 (g := (mkF m 60 #[.val (.ref b1), .val (.long x0), .second, .val (.long x5), .second, .val (.int (0 : Int32)), .val (.int (1 : Int32))] [(.ref b1), (.long x2)])) rfl rfl (hb hby dR_60)
  have hi20 : ¬ (1 : Int32) < 0 ∧ (1 : Int32).toNatClampNeg < (16 : Int32).toNatClampNeg := by decide
  have ha20 : cl11.slots[(1 : Int32).toNatClampNeg]? = some (.long x1) := H11 _ (by rw [S11]; exact hi20.2)
  refine own_go (b := T19.setTop (mkF m 67 #[.val (.ref b1), .val (.long x0), .second, .val (.long x5), .second, .val (.int (0 : Int32)), .val (.int (1 : Int32))] [(.int (lcmpW x2 x1))])) (fun t k => ?_) ?_
  · show Steps p.tables e below (s₁.setTop (mkF m 0 #[.val (.ref b1), .unset, .unset, .unset, .unset, .unset, .unset] [])) _
    refine XS.aloadN X0.here hx rfl (hb hby dR_0) rfl rfl ?_
    show Steps p.tables e below (s₁.setTop (mkF m 1 #[.val (.ref b1), .unset, .unset, .unset, .unset, .unset, .unset] [(.ref b1)])) _
    refine st1 _ ?_
    show Steps p.tables e below (T1.setTop (mkF m 4 #[.val (.ref b1), .unset, .unset, .unset, .unset, .unset, .unset] [(.ref q1)])) _
    refine XS.iconst X1.here hx rfl (hb hby dR_4) ?_
    show Steps p.tables e below (T1.setTop (mkF m 5 #[.val (.ref b1), .unset, .unset, .unset, .unset, .unset, .unset] [(.int (0 : Int32)), (.ref q1)])) _
    refine X1.laload hx (j := (0 : Int32)) (v := (.long x0)) (by rw [e1]; exact Ar2.1) (State.isArrayOf_alike hZ.alike Ar2.2.1) Ar2.2.2 (own_hin S2 hi3) ha3 (g := (mkF m 5 #[.val (.ref b1), .unset, .unset, .unset, .unset, .unset, .unset] [(.int (0 : Int32)), (.ref q1)])) rfl rfl (hb hby dR_5) _ ?_
    show Steps p.tables e below (T1.setTop (mkF m 6 #[.val (.ref b1), .unset, .unset, .unset, .unset, .unset, .unset] [(.long x0)])) _
    refine XS.lstoreN X1.here hx rfl (hb hby dR_6) rfl (l' := #[.val (.ref b1), .val (.long x0), .second, .unset, .unset, .unset, .unset]) rfl ?_
    show Steps p.tables e below (T1.setTop (mkF m 7 #[.val (.ref b1), .val (.long x0), .second, .unset, .unset, .unset, .unset] [])) _
    refine XS.aloadN X1.here hx rfl (hb hby dR_7) rfl rfl ?_
    show Steps p.tables e below (T1.setTop (mkF m 8 #[.val (.ref b1), .val (.long x0), .second, .unset, .unset, .unset, .unset] [(.ref b1)])) _
    refine st4 _ ?_
    show Steps p.tables e below (T4.setTop (mkF m 11 #[.val (.ref b1), .val (.long x0), .second, .unset, .unset, .unset, .unset] [(.ref q1)])) _
    refine XS.aloadN X4.here hx rfl (hb hby dR_11) rfl rfl ?_
    show Steps p.tables e below (T4.setTop (mkF m 12 #[.val (.ref b1), .val (.long x0), .second, .unset, .unset, .unset, .unset] [(.ref b1), (.ref q1)])) _
    refine XS.dup X4.here hx rfl (hb hby dR_12) rfl rfl ?_
    show Steps p.tables e below (T4.setTop (mkF m 13 #[.val (.ref b1), .val (.long x0), .second, .unset, .unset, .unset, .unset] [(.ref b1), (.ref b1), (.ref q1)])) _
    refine st5 _ ?_
    show Steps p.tables e below (T5.setTop (mkF m 16 #[.val (.ref b1), .val (.long x0), .second, .unset, .unset, .unset, .unset] [(.int (6 : Int32)), (.ref b1), (.ref q1)])) _
    refine XS.iconst X5.here hx rfl (hb hby dR_16) ?_
    show Steps p.tables e below (T5.setTop (mkF m 17 #[.val (.ref b1), .val (.long x0), .second, .unset, .unset, .unset, .unset] [(.int (1 : Int32)), (.int (6 : Int32)), (.ref b1), (.ref q1)])) _
    refine XS.isub X5.here hx rfl (hb hby dR_17) rfl ?_
    show Steps p.tables e below (T5.setTop (mkF m 18 #[.val (.ref b1), .val (.long x0), .second, .unset, .unset, .unset, .unset] [(.int (5 : Int32)), (.ref b1), (.ref q1)])) _
    refine XS.dupX1 X5.here hx rfl (hb hby dR_18) rfl rfl rfl ?_
    show Steps p.tables e below (T5.setTop (mkF m 19 #[.val (.ref b1), .val (.long x0), .second, .unset, .unset, .unset, .unset] [(.int (5 : Int32)), (.ref b1), (.int (5 : Int32)), (.ref q1)])) _
    refine st6 _ ?_
    show Steps p.tables e below (T6.setTop (mkF m 22 #[.val (.ref b1), .val (.long x0), .second, .unset, .unset, .unset, .unset] [(.int (5 : Int32)), (.ref q1)])) _
    refine X6.laload hx (j := (5 : Int32)) (v := (.long x5)) (by rw [e6]; exact Ar11.1) (State.isArrayOf_alike hZ.alike Ar11.2.1) Ar11.2.2 (own_hin S11 hi12) ha12 (g := (mkF m 22 #[.val (.ref b1), .val (.long x0), .second, .unset, .unset, .unset, .unset] [(.int (5 : Int32)), (.ref q1)])) rfl rfl (hb hby dR_22) _ ?_
    show Steps p.tables e below (T6.setTop (mkF m 23 #[.val (.ref b1), .val (.long x0), .second, .unset, .unset, .unset, .unset] [(.long x5)])) _
    refine XS.lstoreN X6.here hx rfl (hb hby dR_23) rfl (l' := #[.val (.ref b1), .val (.long x0), .second, .val (.long x5), .second, .unset, .unset]) rfl ?_
    show Steps p.tables e below (T6.setTop (mkF m 24 #[.val (.ref b1), .val (.long x0), .second, .val (.long x5), .second, .unset, .unset] [])) _
    refine XS.iconst X6.here hx rfl (hb hby dR_24) ?_
    show Steps p.tables e below (T6.setTop (mkF m 25 #[.val (.ref b1), .val (.long x0), .second, .val (.long x5), .second, .unset, .unset] [(.int (0 : Int32))])) _
    refine XS.istore X6.here hx rfl (hb hby dR_25) rfl (l' := #[.val (.ref b1), .val (.long x0), .second, .val (.long x5), .second, .val (.int (0 : Int32)), .unset]) rfl ?_
    show Steps p.tables e below (T6.setTop (mkF m 27 #[.val (.ref b1), .val (.long x0), .second, .val (.long x5), .second, .val (.int (0 : Int32)), .unset] [])) _
    refine XS.iconst X6.here hx rfl (hb hby dR_27) ?_
    show Steps p.tables e below (T6.setTop (mkF m 28 #[.val (.ref b1), .val (.long x0), .second, .val (.long x5), .second, .val (.int (0 : Int32)), .unset] [(.int (1 : Int32))])) _
    refine XS.istore X6.here hx rfl (hb hby dR_28) rfl (l' := #[.val (.ref b1), .val (.long x0), .second, .val (.long x5), .second, .val (.int (0 : Int32)), .val (.int (1 : Int32))]) rfl ?_
    show Steps p.tables e below (T6.setTop (mkF m 30 #[.val (.ref b1), .val (.long x0), .second, .val (.long x5), .second, .val (.int (0 : Int32)), .val (.int (1 : Int32))] [])) _
    refine XS.iload X6.here hx rfl (hb hby dR_30) rfl ?_
    show Steps p.tables e below (T6.setTop (mkF m 32 #[.val (.ref b1), .val (.long x0), .second, .val (.long x5), .second, .val (.int (0 : Int32)), .val (.int (1 : Int32))] [(.int (1 : Int32))])) _
    refine XS.aloadN X6.here hx rfl (hb hby dR_32) rfl rfl ?_
    show Steps p.tables e below (T6.setTop (mkF m 33 #[.val (.ref b1), .val (.long x0), .second, .val (.long x5), .second, .val (.int (0 : Int32)), .val (.int (1 : Int32))] [(.ref b1), (.int (1 : Int32))])) _
    refine st13 _ ?_
    show Steps p.tables e below (T13.setTop (mkF m 36 #[.val (.ref b1), .val (.long x0), .second, .val (.long x5), .second, .val (.int (0 : Int32)), .val (.int (1 : Int32))] [(.int (5 : Int32)), (.int (1 : Int32))])) _
    refine XS.icmpNo X13.here hx rfl (hb hby dR_36) rfl (tlt hc36_14).2.1 ?_
    show Steps p.tables e below (T13.setTop (mkF m 39 #[.val (.ref b1), .val (.long x0), .second, .val (.long x5), .second, .val (.int (0 : Int32)), .val (.int (1 : Int32))] [])) _
    refine XS.iload X13.here hx rfl (hb hby dR_39) rfl ?_
    show Steps p.tables e below (T13.setTop (mkF m 41 #[.val (.ref b1), .val (.long x0), .second, .val (.long x5), .second, .val (.int (0 : Int32)), .val (.int (1 : Int32))] [(.int (1 : Int32))])) _
    refine XS.iconst X13.here hx rfl (hb hby dR_41) ?_
    show Steps p.tables e below (T13.setTop (mkF m 42 #[.val (.ref b1), .val (.long x0), .second, .val (.long x5), .second, .val (.int (0 : Int32)), .val (.int (1 : Int32))] [(.int (1 : Int32)), (.int (1 : Int32))])) _
    refine XS.iadd X13.here hx rfl (hb hby dR_42) rfl ?_
    show Steps p.tables e below (T13.setTop (mkF m 43 #[.val (.ref b1), .val (.long x0), .second, .val (.long x5), .second, .val (.int (0 : Int32)), .val (.int (1 : Int32))] [(.int (2 : Int32))])) _
    refine XS.aloadN X13.here hx rfl (hb hby dR_43) rfl rfl ?_
    show Steps p.tables e below (T13.setTop (mkF m 44 #[.val (.ref b1), .val (.long x0), .second, .val (.long x5), .second, .val (.int (0 : Int32)), .val (.int (1 : Int32))] [(.ref b1), (.int (2 : Int32))])) _
    refine st15 _ ?_
    show Steps p.tables e below (T15.setTop (mkF m 47 #[.val (.ref b1), .val (.long x0), .second, .val (.long x5), .second, .val (.int (0 : Int32)), .val (.int (1 : Int32))] [(.int (5 : Int32)), (.int (2 : Int32))])) _
    refine XS.icmpNo X15.here hx rfl (hb hby dR_47) rfl (tlt hc47_16).2.1 ?_
    show Steps p.tables e below (T15.setTop (mkF m 50 #[.val (.ref b1), .val (.long x0), .second, .val (.long x5), .second, .val (.int (0 : Int32)), .val (.int (1 : Int32))] [])) _
    refine XS.aloadN X15.here hx rfl (hb hby dR_50) rfl rfl ?_
    show Steps p.tables e below (T15.setTop (mkF m 51 #[.val (.ref b1), .val (.long x0), .second, .val (.long x5), .second, .val (.int (0 : Int32)), .val (.int (1 : Int32))] [(.ref b1)])) _
    refine st17 _ ?_
    show Steps p.tables e below (T17.setTop (mkF m 54 #[.val (.ref b1), .val (.long x0), .second, .val (.long x5), .second, .val (.int (0 : Int32)), .val (.int (1 : Int32))] [(.ref q1)])) _
    refine XS.iload X17.here hx rfl (hb hby dR_54) rfl ?_
    show Steps p.tables e below (T17.setTop (mkF m 56 #[.val (.ref b1), .val (.long x0), .second, .val (.long x5), .second, .val (.int (0 : Int32)), .val (.int (1 : Int32))] [(.int (1 : Int32)), (.ref q1)])) _
    refine XS.iconst X17.here hx rfl (hb hby dR_56) ?_
    show Steps p.tables e below (T17.setTop (mkF m 57 #[.val (.ref b1), .val (.long x0), .second, .val (.long x5), .second, .val (.int (0 : Int32)), .val (.int (1 : Int32))] [(.int (1 : Int32)), (.int (1 : Int32)), (.ref q1)])) _
    refine XS.iadd X17.here hx rfl (hb hby dR_57) rfl ?_
    show Steps p.tables e below (T17.setTop (mkF m 58 #[.val (.ref b1), .val (.long x0), .second, .val (.long x5), .second, .val (.int (0 : Int32)), .val (.int (1 : Int32))] [(.int (2 : Int32)), (.ref q1)])) _
    refine X17.laload hx (j := (2 : Int32)) (v := (.long x2)) (by rw [e17]; exact Ar11.1) (State.isArrayOf_alike hZ.alike Ar11.2.1) Ar11.2.2 (own_hin S11 hi18) ha18 (g := (mkF m 58 #[.val (.ref b1), .val (.long x0), .second, .val (.long x5), .second, .val (.int (0 : Int32)), .val (.int (1 : Int32))] [(.int (2 : Int32)), (.ref q1)])) rfl rfl (hb hby dR_58) _ ?_
    show Steps p.tables e below (T17.setTop (mkF m 59 #[.val (.ref b1), .val (.long x0), .second, .val (.long x5), .second, .val (.int (0 : Int32)), .val (.int (1 : Int32))] [(.long x2)])) _
    refine XS.aloadN X17.here hx rfl (hb hby dR_59) rfl rfl ?_
    show Steps p.tables e below (T17.setTop (mkF m 60 #[.val (.ref b1), .val (.long x0), .second, .val (.long x5), .second, .val (.int (0 : Int32)), .val (.int (1 : Int32))] [(.ref b1), (.long x2)])) _
    refine st19 _ ?_
    show Steps p.tables e below (T19.setTop (mkF m 63 #[.val (.ref b1), .val (.long x0), .second, .val (.long x5), .second, .val (.int (0 : Int32)), .val (.int (1 : Int32))] [(.ref q1), (.long x2)])) _
    refine XS.iload X19.here hx rfl (hb hby dR_63) rfl ?_
    show Steps p.tables e below (T19.setTop (mkF m 65 #[.val (.ref b1), .val (.long x0), .second, .val (.long x5), .second, .val (.int (0 : Int32)), .val (.int (1 : Int32))] [(.int (1 : Int32)), (.ref q1), (.long x2)])) _
    refine X19.laload hx (j := (1 : Int32)) (v := (.long x1)) (by rw [e19]; exact Ar11.1) (State.isArrayOf_alike hZ.alike Ar11.2.1) Ar11.2.2 (own_hin S11 hi20) ha20 (g := (mkF m 65 #[.val (.ref b1), .val (.long x0), .second, .val (.long x5), .second, .val (.int (0 : Int32)), .val (.int (1 : Int32))] [(.int (1 : Int32)), (.ref q1), (.long x2)])) rfl rfl (hb hby dR_65) _ ?_
    show Steps p.tables e below (T19.setTop (mkF m 66 #[.val (.ref b1), .val (.long x0), .second, .val (.long x5), .second, .val (.int (0 : Int32)), .val (.int (1 : Int32))] [(.long x1), (.long x2)])) _
    refine XS.lcmp X19.here hx rfl (hb hby dR_66) rfl ?_
    show Steps p.tables e below (T19.setTop (mkF m 67 #[.val (.ref b1), .val (.long x0), .second, .val (.long x5), .second, .val (.int (0 : Int32)), .val (.int (1 : Int32))] [(.int (lcmpW x2 x1))])) _
    exact k
  by_cases hc67 : x2 < x1
  · obtain ⟨T21, X21, e21, st21⟩ := getF X19 hx hZ hown (host := "") (Or.inl (hw _ (List.mem_of_getElem? (i := 14) rfl))) Via.refl e19 F8 (g := (mkF m 74 #[.val (.ref b1), .val (.long x0), .second, .val (.long x5), .second, .val (.int (0 : Int32)), .val (.int (2 : Int32))] [(.ref b1)])) rfl rfl (hb hby dR_74)
    have hi22 : ¬ (2 : Int32) < 0 ∧ (2 : Int32).toNatClampNeg < (16 : Int32).toNatClampNeg := by decide
    have ha22 : cl11.slots[(2 : Int32).toNatClampNeg]? = some (.long x2) := H11 _ (by rw [S11]; exact hi22.2)
    refine own_go (b := T21.setTop (mkF m 82 #[.val (.ref b1), .val (.long x0), .second, .val (.long x5), .second, .val (.int (0 : Int32)), .val (.int (2 : Int32))] [(.int (lcmpW x2 x5))])) (fun t k => ?_) ?_
    · show Steps p.tables e below (T19.setTop (mkF m 67 #[.val (.ref b1), .val (.long x0), .second, .val (.long x5), .second, .val (.int (0 : Int32)), .val (.int (1 : Int32))] [(.int (lcmpW x2 x1))])) _
      refine XS.ifNo X19.here hx rfl (hb hby dR_67) rfl ((if0 _ _).trans (tlt ((lw_lt x2 x1).mpr hc67)).2.1) ?_
      show Steps p.tables e below (T19.setTop (mkF m 70 #[.val (.ref b1), .val (.long x0), .second, .val (.long x5), .second, .val (.int (0 : Int32)), .val (.int (1 : Int32))] [])) _
      refine XS.iinc X19.here hx rfl (hb hby dR_70) rfl (l' := #[.val (.ref b1), .val (.long x0), .second, .val (.long x5), .second, .val (.int (0 : Int32)), .val (.int (2 : Int32))]) rfl ?_
      show Steps p.tables e below (T19.setTop (mkF m 73 #[.val (.ref b1), .val (.long x0), .second, .val (.long x5), .second, .val (.int (0 : Int32)), .val (.int (2 : Int32))] [])) _
      refine XS.aloadN X19.here hx rfl (hb hby dR_73) rfl rfl ?_
      show Steps p.tables e below (T19.setTop (mkF m 74 #[.val (.ref b1), .val (.long x0), .second, .val (.long x5), .second, .val (.int (0 : Int32)), .val (.int (2 : Int32))] [(.ref b1)])) _
      refine st21 _ ?_
      show Steps p.tables e below (T21.setTop (mkF m 77 #[.val (.ref b1), .val (.long x0), .second, .val (.long x5), .second, .val (.int (0 : Int32)), .val (.int (2 : Int32))] [(.ref q1)])) _
      refine XS.iload X21.here hx rfl (hb hby dR_77) rfl ?_
      show Steps p.tables e below (T21.setTop (mkF m 79 #[.val (.ref b1), .val (.long x0), .second, .val (.long x5), .second, .val (.int (0 : Int32)), .val (.int (2 : Int32))] [(.int (2 : Int32)), (.ref q1)])) _
      refine X21.laload hx (j := (2 : Int32)) (v := (.long x2)) (by rw [e21]; exact Ar11.1) (State.isArrayOf_alike hZ.alike Ar11.2.1) Ar11.2.2 (own_hin S11 hi22) ha22 (g := (mkF m 79 #[.val (.ref b1), .val (.long x0), .second, .val (.long x5), .second, .val (.int (0 : Int32)), .val (.int (2 : Int32))] [(.int (2 : Int32)), (.ref q1)])) rfl rfl (hb hby dR_79) _ ?_
      show Steps p.tables e below (T21.setTop (mkF m 80 #[.val (.ref b1), .val (.long x0), .second, .val (.long x5), .second, .val (.int (0 : Int32)), .val (.int (2 : Int32))] [(.long x2)])) _
      refine XS.lloadN X21.here hx rfl (hb hby dR_80) rfl ?_
      show Steps p.tables e below (T21.setTop (mkF m 81 #[.val (.ref b1), .val (.long x0), .second, .val (.long x5), .second, .val (.int (0 : Int32)), .val (.int (2 : Int32))] [(.long x5), (.long x2)])) _
      refine XS.lcmp X21.here hx rfl (hb hby dR_81) rfl ?_
      show Steps p.tables e below (T21.setTop (mkF m 82 #[.val (.ref b1), .val (.long x0), .second, .val (.long x5), .second, .val (.int (0 : Int32)), .val (.int (2 : Int32))] [(.int (lcmpW x2 x5))])) _
      exact k
    by_cases hc82 : x2 < x5
    · obtain ⟨T23, X23, e23, st23⟩ := getF X21 hx hZ hown (host := "") (Or.inl (hw _ (List.mem_of_getElem? (i := 14) rfl))) Via.refl e21 F8 (g := (mkF m 89 #[.val (.ref b1), .val (.long x0), .second, .val (.long x5), .second, .val (.int (0 : Int32)), .val (.int (2 : Int32))] [(.ref b1)])) rfl rfl (hb hby dR_89)
      obtain ⟨T24, X24, e24, st24⟩ := getF X23 hx hZ hown (host := "") (Or.inl (hw _ (List.mem_of_getElem? (i := 14) rfl))) Via.refl e23 F8 (g := (mkF m 95 #[.val (.ref b1), .val (.long x0), .second, .val (.long x5), .second, .val (.int (0 : Int32)), .val (.int (2 : Int32))] [(.ref b1), (.int (0 : Int32)), (.ref q1)])) rfl rfl (hb hby dR_95)
      have hi25 : ¬ (2 : Int32) < 0 ∧ (2 : Int32).toNatClampNeg < (16 : Int32).toNatClampNeg := by decide
      have ha25 : cl11.slots[(2 : Int32).toNatClampNeg]? = some (.long x2) := H11 _ (by rw [S11]; exact hi25.2)
      obtain ⟨T26, h26, X26, e26, W26, st26⟩ := stJ X24 hx hZ e24 Ar11 (j := (0 : Int32)) (by rw [S11]; decide) (g := (mkF m 101 #[.val (.ref b1), .val (.long x0), .second, .val (.long x5), .second, .val (.int (0 : Int32)), .val (.int (2 : Int32))] [(.long x2), (.int (0 : Int32)), (.ref q1)])) rfl rfl (hb hby dR_101)
      have N26 := Fr.snoc X26 N6 lo_q1
      obtain ⟨lc26, X26, N26⟩ := own_lc X26 N26
      have V27 : Arv Z h26 q1 k1 .long (16 : Int32) [(.long x2), (.long x1), (.long x2), (.long x3), (.long x4), (.long x5), (.long (0 : Int64)), (.long (0 : Int64)), (.long (0 : Int64)), (.long (0 : Int64)), (.long (0 : Int64)), (.long (0 : Int64)), (.long (0 : Int64)), (.long (0 : Int64)), (.long (0 : Int64)), (.long (0 : Int64))] (.long (0 : Int64)) := Arv.set Ar11 q11 S11 M11 H11 U11 rfl W26 0 rfl (by show 0 < 16; decide)
      have K26 := K6.wr W26 (Or.inl (List.mem_of_getElem? (i := 1) rfl))
      have F28 := F8.other W26 (Or.inl (Nat.ne_of_lt lt_q))
      have F29 := F7.other W26 (Or.inl (Nat.ne_of_lt lt_q))
      have E30 := E9.wr W26
      have Z26 : n0 ≤ h26.size := by rw [W26.size]; exact Z6
      obtain ⟨T31, X31, e31, st31⟩ := getF X26 hx hZ hown (host := "") (Or.inl (hw _ (List.mem_of_getElem? (i := 21) rfl))) Via.refl e26 F29 (g := (mkF m 33 #[.val (.ref b1), .val (.long x0), .second, .val (.long x5), .second, .val (.int (2 : Int32)), .val (.int (5 : Int32))] [(.ref b1), (.int (5 : Int32))])) rfl rfl (hb hby dR_33)
      have hc36_32 : ¬ ((5 : Int32) < (5 : Int32)) := (by decide)
      obtain ⟨T33, X33, e33, st33⟩ := getF X31 hx hZ hown (host := "") (Or.inl (hw _ (List.mem_of_getElem? (i := 14) rfl))) Via.refl e31 F28 (g := (mkF m 118 #[.val (.ref b1), .val (.long x0), .second, .val (.long x5), .second, .val (.int (2 : Int32)), .val (.int (5 : Int32))] [(.ref b1)])) rfl rfl (hb hby dR_118)
      obtain ⟨cl34, Ar34, q34, S34, M34, H34, U34⟩ := id V27
      obtain ⟨T35, h35, X35, e35, W35, st35⟩ := stJ X33 hx hZ e33 Ar34 (j := (2 : Int32)) (by rw [S34]; decide) (g := (mkF m 124 #[.val (.ref b1), .val (.long x0), .second, .val (.long x5), .second, .val (.int (2 : Int32)), .val (.int (5 : Int32))] [(.long x5), (.int (2 : Int32)), (.ref q1)])) rfl rfl (hb hby dR_124)
      have N35 := Fr.snoc X35 N26 lo_q1
      obtain ⟨lc35, X35, N35⟩ := own_lc X35 N35
      have V36 : Arv Z h35 q1 k1 .long (16 : Int32) [(.long x2), (.long x1), (.long x5), (.long x3), (.long x4), (.long x5), (.long (0 : Int64)), (.long (0 : Int64)), (.long (0 : Int64)), (.long (0 : Int64)), (.long (0 : Int64)), (.long (0 : Int64)), (.long (0 : Int64)), (.long (0 : Int64)), (.long (0 : Int64)), (.long (0 : Int64))] (.long (0 : Int64)) := Arv.set Ar34 q34 S34 M34 H34 U34 rfl W35 2 rfl (by show 2 < 16; decide)
      have K35 := K26.wr W35 (Or.inl (List.mem_of_getElem? (i := 1) rfl))
      have F37 := F28.other W35 (Or.inl (Nat.ne_of_lt lt_q))
      have F38 := F29.other W35 (Or.inl (Nat.ne_of_lt lt_q))
      have E39 := E30.wr W35
      have Z35 : n0 ≤ h35.size := by rw [W35.size]; exact Z26
      refine own_end X35 Bd.notSynchronized (v := some (.long x0)) (fun h => by rw [Bd.returns] at h; cases h) (fun fs hr => ?_) e35 ?_ (by decide) (by decide)
      · show Steps p.tables e below (T21.setTop (mkF m 82 #[.val (.ref b1), .val (.long x0), .second, .val (.long x5), .second, .val (.int (0 : Int32)), .val (.int (2 : Int32))] [(.int (lcmpW x2 x5))])) _
        refine XS.ifYes X21.here hx rfl (pc0 := 82) (pc' := 88) rfl (hb hby dR_82) rfl ((if0 _ _).trans (tlt ((lw_lt x2 x5).mpr hc82)).1) (by decide) (by decide) ?_
        show Steps p.tables e below (T21.setTop (mkF m 88 #[.val (.ref b1), .val (.long x0), .second, .val (.long x5), .second, .val (.int (0 : Int32)), .val (.int (2 : Int32))] [])) _
        refine XS.aloadN X21.here hx rfl (hb hby dR_88) rfl rfl ?_
        show Steps p.tables e below (T21.setTop (mkF m 89 #[.val (.ref b1), .val (.long x0), .second, .val (.long x5), .second, .val (.int (0 : Int32)), .val (.int (2 : Int32))] [(.ref b1)])) _
        refine st23 _ ?_
        show Steps p.tables e below (T23.setTop (mkF m 92 #[.val (.ref b1), .val (.long x0), .second, .val (.long x5), .second, .val (.int (0 : Int32)), .val (.int (2 : Int32))] [(.ref q1)])) _
        refine XS.iload X23.here hx rfl (hb hby dR_92) rfl ?_
        show Steps p.tables e below (T23.setTop (mkF m 94 #[.val (.ref b1), .val (.long x0), .second, .val (.long x5), .second, .val (.int (0 : Int32)), .val (.int (2 : Int32))] [(.int (0 : Int32)), (.ref q1)])) _
        refine XS.aloadN X23.here hx rfl (hb hby dR_94) rfl rfl ?_
        show Steps p.tables e below (T23.setTop (mkF m 95 #[.val (.ref b1), .val (.long x0), .second, .val (.long x5), .second, .val (.int (0 : Int32)), .val (.int (2 : Int32))] [(.ref b1), (.int (0 : Int32)), (.ref q1)])) _
        refine st24 _ ?_
        show Steps p.tables e below (T24.setTop (mkF m 98 #[.val (.ref b1), .val (.long x0), .second, .val (.long x5), .second, .val (.int (0 : Int32)), .val (.int (2 : Int32))] [(.ref q1), (.int (0 : Int32)), (.ref q1)])) _
        refine XS.iload X24.here hx rfl (hb hby dR_98) rfl ?_
        show Steps p.tables e below (T24.setTop (mkF m 100 #[.val (.ref b1), .val (.long x0), .second, .val (.long x5), .second, .val (.int (0 : Int32)), .val (.int (2 : Int32))] [(.int (2 : Int32)), (.ref q1), (.int (0 : Int32)), (.ref q1)])) _
        refine X24.laload hx (j := (2 : Int32)) (v := (.long x2)) (by rw [e24]; exact Ar11.1) (State.isArrayOf_alike hZ.alike Ar11.2.1) Ar11.2.2 (own_hin S11 hi25) ha25 (g := (mkF m 100 #[.val (.ref b1), .val (.long x0), .second, .val (.long x5), .second, .val (.int (0 : Int32)), .val (.int (2 : Int32))] [(.int (2 : Int32)), (.ref q1), (.int (0 : Int32)), (.ref q1)])) rfl rfl (hb hby dR_100) _ ?_
        show Steps p.tables e below (T24.setTop (mkF m 101 #[.val (.ref b1), .val (.long x0), .second, .val (.long x5), .second, .val (.int (0 : Int32)), .val (.int (2 : Int32))] [(.long x2), (.int (0 : Int32)), (.ref q1)])) _
        refine st26 _ ?_
        show Steps p.tables e below (T26.setTop (mkF m 102 #[.val (.ref b1), .val (.long x0), .second, .val (.long x5), .second, .val (.int (0 : Int32)), .val (.int (2 : Int32))] [])) _
        refine XS.iload X26.here hx rfl (hb hby dR_102) rfl ?_
        show Steps p.tables e below (T26.setTop (mkF m 104 #[.val (.ref b1), .val (.long x0), .second, .val (.long x5), .second, .val (.int (0 : Int32)), .val (.int (2 : Int32))] [(.int (2 : Int32))])) _
        refine XS.istore X26.here hx rfl (hb hby dR_104) rfl (l' := #[.val (.ref b1), .val (.long x0), .second, .val (.long x5), .second, .val (.int (2 : Int32)), .val (.int (2 : Int32))]) rfl ?_
        show Steps p.tables e below (T26.setTop (mkF m 106 #[.val (.ref b1), .val (.long x0), .second, .val (.long x5), .second, .val (.int (2 : Int32)), .val (.int (2 : Int32))] [])) _
        refine XS.iconst X26.here hx rfl (hb hby dR_106) ?_
        show Steps p.tables e below (T26.setTop (mkF m 107 #[.val (.ref b1), .val (.long x0), .second, .val (.long x5), .second, .val (.int (2 : Int32)), .val (.int (2 : Int32))] [(.int (2 : Int32))])) _
        refine XS.iload X26.here hx rfl (hb hby dR_107) rfl ?_
        show Steps p.tables e below (T26.setTop (mkF m 109 #[.val (.ref b1), .val (.long x0), .second, .val (.long x5), .second, .val (.int (2 : Int32)), .val (.int (2 : Int32))] [(.int (2 : Int32)), (.int (2 : Int32))])) _
        refine XS.imul X26.here hx rfl (hb hby dR_109) rfl ?_
        show Steps p.tables e below (T26.setTop (mkF m 110 #[.val (.ref b1), .val (.long x0), .second, .val (.long x5), .second, .val (.int (2 : Int32)), .val (.int (2 : Int32))] [(.int (4 : Int32))])) _
        refine XS.iconst X26.here hx rfl (hb hby dR_110) ?_
        show Steps p.tables e below (T26.setTop (mkF m 111 #[.val (.ref b1), .val (.long x0), .second, .val (.long x5), .second, .val (.int (2 : Int32)), .val (.int (2 : Int32))] [(.int (1 : Int32)), (.int (4 : Int32))])) _
        refine XS.iadd X26.here hx rfl (hb hby dR_111) rfl ?_
        show Steps p.tables e below (T26.setTop (mkF m 112 #[.val (.ref b1), .val (.long x0), .second, .val (.long x5), .second, .val (.int (2 : Int32)), .val (.int (2 : Int32))] [(.int (5 : Int32))])) _
        refine XS.istore X26.here hx rfl (hb hby dR_112) rfl (l' := #[.val (.ref b1), .val (.long x0), .second, .val (.long x5), .second, .val (.int (2 : Int32)), .val (.int (5 : Int32))]) rfl ?_
        show Steps p.tables e below (T26.setTop (mkF m 114 #[.val (.ref b1), .val (.long x0), .second, .val (.long x5), .second, .val (.int (2 : Int32)), .val (.int (5 : Int32))] [])) _
        refine XS.goto X26.here hx rfl (pc0 := 114) (pc' := 30) rfl (hb hby dR_114) (by decide) (by decide) ?_
        show Steps p.tables e below (T26.setTop (mkF m 30 #[.val (.ref b1), .val (.long x0), .second, .val (.long x5), .second, .val (.int (2 : Int32)), .val (.int (5 : Int32))] [])) _
        refine XS.iload X26.here hx rfl (hb hby dR_30) rfl ?_
        show Steps p.tables e below (T26.setTop (mkF m 32 #[.val (.ref b1), .val (.long x0), .second, .val (.long x5), .second, .val (.int (2 : Int32)), .val (.int (5 : Int32))] [(.int (5 : Int32))])) _
        refine XS.aloadN X26.here hx rfl (hb hby dR_32) rfl rfl ?_
        show Steps p.tables e below (T26.setTop (mkF m 33 #[.val (.ref b1), .val (.long x0), .second, .val (.long x5), .second, .val (.int (2 : Int32)), .val (.int (5 : Int32))] [(.ref b1), (.int (5 : Int32))])) _
        refine st31 _ ?_
        show Steps p.tables e below (T31.setTop (mkF m 36 #[.val (.ref b1), .val (.long x0), .second, .val (.long x5), .second, .val (.int (2 : Int32)), .val (.int (5 : Int32))] [(.int (5 : Int32)), (.int (5 : Int32))])) _
        refine XS.icmpYes X31.here hx rfl (pc0 := 36) (pc' := 117) rfl (hb hby dR_36) rfl (flt hc36_32).2.1 (by decide) (by decide) ?_
        show Steps p.tables e below (T31.setTop (mkF m 117 #[.val (.ref b1), .val (.long x0), .second, .val (.long x5), .second, .val (.int (2 : Int32)), .val (.int (5 : Int32))] [])) _
        refine XS.aloadN X31.here hx rfl (hb hby dR_117) rfl rfl ?_
        show Steps p.tables e below (T31.setTop (mkF m 118 #[.val (.ref b1), .val (.long x0), .second, .val (.long x5), .second, .val (.int (2 : Int32)), .val (.int (5 : Int32))] [(.ref b1)])) _
        refine st33 _ ?_
        show Steps p.tables e below (T33.setTop (mkF m 121 #[.val (.ref b1), .val (.long x0), .second, .val (.long x5), .second, .val (.int (2 : Int32)), .val (.int (5 : Int32))] [(.ref q1)])) _
        refine XS.iload X33.here hx rfl (hb hby dR_121) rfl ?_
        show Steps p.tables e below (T33.setTop (mkF m 123 #[.val (.ref b1), .val (.long x0), .second, .val (.long x5), .second, .val (.int (2 : Int32)), .val (.int (5 : Int32))] [(.int (2 : Int32)), (.ref q1)])) _
        refine XS.lloadN X33.here hx rfl (hb hby dR_123) rfl ?_
        show Steps p.tables e below (T33.setTop (mkF m 124 #[.val (.ref b1), .val (.long x0), .second, .val (.long x5), .second, .val (.int (2 : Int32)), .val (.int (5 : Int32))] [(.long x5), (.int (2 : Int32)), (.ref q1)])) _
        refine st35 _ ?_
        show Steps p.tables e below (T35.setTop (mkF m 125 #[.val (.ref b1), .val (.long x0), .second, .val (.long x5), .second, .val (.int (2 : Int32)), .val (.int (5 : Int32))] [])) _
        refine XS.lloadN X35.here hx rfl (hb hby dR_125) rfl ?_
        show Steps p.tables e below (T35.setTop (mkF m 126 #[.val (.ref b1), .val (.long x0), .second, .val (.long x5), .second, .val (.int (2 : Int32)), .val (.int (5 : Int32))] [(.long x0)])) _
        exact X35.lreturnOut hx Bd.returns (hb hby dR_126) hr
      · exact ⟨rfl, N35, K35, E39, F37, F38, _, _, _, _, _, _, by rw [own_rem_6, if_pos hc67, if_pos hc82], V36⟩
    · obtain ⟨T40, X40, e40, st40⟩ := getF X21 hx hZ hown (host := "") (Or.inl (hw _ (List.mem_of_getElem? (i := 14) rfl))) Via.refl e21 F8 (g := (mkF m 118 #[.val (.ref b1), .val (.long x0), .second, .val (.long x5), .second, .val (.int (0 : Int32)), .val (.int (2 : Int32))] [(.ref b1)])) rfl rfl (hb hby dR_118)
      obtain ⟨T41, h41, X41, e41, W41, st41⟩ := stJ X40 hx hZ e40 Ar11 (j := (0 : Int32)) (by rw [S11]; decide) (g := (mkF m 124 #[.val (.ref b1), .val (.long x0), .second, .val (.long x5), .second, .val (.int (0 : Int32)), .val (.int (2 : Int32))] [(.long x5), (.int (0 : Int32)), (.ref q1)])) rfl rfl (hb hby dR_124)
      have N41 := Fr.snoc X41 N6 lo_q1
      obtain ⟨lc41, X41, N41⟩ := own_lc X41 N41
      have V42 : Arv Z h41 q1 k1 .long (16 : Int32) [(.long x5), (.long x1), (.long x2), (.long x3), (.long x4), (.long x5), (.long (0 : Int64)), (.long (0 : Int64)), (.long (0 : Int64)), (.long (0 : Int64)), (.long (0 : Int64)), (.long (0 : Int64)), (.long (0 : Int64)), (.long (0 : Int64)), (.long (0 : Int64)), (.long (0 : Int64))] (.long (0 : Int64)) := Arv.set Ar11 q11 S11 M11 H11 U11 rfl W41 0 rfl (by show 0 < 16; decide)
      have K41 := K6.wr W41 (Or.inl (List.mem_of_getElem? (i := 1) rfl))
      have F43 := F8.other W41 (Or.inl (Nat.ne_of_lt lt_q))
      have F44 := F7.other W41 (Or.inl (Nat.ne_of_lt lt_q))
      have E45 := E9.wr W41
      have Z41 : n0 ≤ h41.size := by rw [W41.size]; exact Z6
      refine own_end X41 Bd.notSynchronized (v := some (.long x0)) (fun h => by rw [Bd.returns] at h; cases h) (fun fs hr => ?_) e41 ?_ (by decide) (by decide)
      · show Steps p.tables e below (T21.setTop (mkF m 82 #[.val (.ref b1), .val (.long x0), .second, .val (.long x5), .second, .val (.int (0 : Int32)), .val (.int (2 : Int32))] [(.int (lcmpW x2 x5))])) _
        refine XS.ifNo X21.here hx rfl (hb hby dR_82) rfl ((if0 _ _).trans (flt (fun q => hc82 ((lw_lt x2 x5).mp q))).1) ?_
        show Steps p.tables e below (T21.setTop (mkF m 85 #[.val (.ref b1), .val (.long x0), .second, .val (.long x5), .second, .val (.int (0 : Int32)), .val (.int (2 : Int32))] [])) _
        refine XS.goto X21.here hx rfl (pc0 := 85) (pc' := 117) rfl (hb hby dR_85) (by decide) (by decide) ?_
        show Steps p.tables e below (T21.setTop (mkF m 117 #[.val (.ref b1), .val (.long x0), .second, .val (.long x5), .second, .val (.int (0 : Int32)), .val (.int (2 : Int32))] [])) _
        refine XS.aloadN X21.here hx rfl (hb hby dR_117) rfl rfl ?_
        show Steps p.tables e below (T21.setTop (mkF m 118 #[.val (.ref b1), .val (.long x0), .second, .val (.long x5), .second, .val (.int (0 : Int32)), .val (.int (2 : Int32))] [(.ref b1)])) _
        refine st40 _ ?_
        show Steps p.tables e below (T40.setTop (mkF m 121 #[.val (.ref b1), .val (.long x0), .second, .val (.long x5), .second, .val (.int (0 : Int32)), .val (.int (2 : Int32))] [(.ref q1)])) _
        refine XS.iload X40.here hx rfl (hb hby dR_121) rfl ?_
        show Steps p.tables e below (T40.setTop (mkF m 123 #[.val (.ref b1), .val (.long x0), .second, .val (.long x5), .second, .val (.int (0 : Int32)), .val (.int (2 : Int32))] [(.int (0 : Int32)), (.ref q1)])) _
        refine XS.lloadN X40.here hx rfl (hb hby dR_123) rfl ?_
        show Steps p.tables e below (T40.setTop (mkF m 124 #[.val (.ref b1), .val (.long x0), .second, .val (.long x5), .second, .val (.int (0 : Int32)), .val (.int (2 : Int32))] [(.long x5), (.int (0 : Int32)), (.ref q1)])) _
        refine st41 _ ?_
        show Steps p.tables e below (T41.setTop (mkF m 125 #[.val (.ref b1), .val (.long x0), .second, .val (.long x5), .second, .val (.int (0 : Int32)), .val (.int (2 : Int32))] [])) _
        refine XS.lloadN X41.here hx rfl (hb hby dR_125) rfl ?_
        show Steps p.tables e below (T41.setTop (mkF m 126 #[.val (.ref b1), .val (.long x0), .second, .val (.long x5), .second, .val (.int (0 : Int32)), .val (.int (2 : Int32))] [(.long x0)])) _
        exact X41.lreturnOut hx Bd.returns (hb hby dR_126) hr
      · exact ⟨rfl, N41, K41, E45, F43, F44, _, _, _, _, _, _, by rw [own_rem_6, if_pos hc67, if_neg hc82], V42⟩
  · obtain ⟨T46, X46, e46, st46⟩ := getF X19 hx hZ hown (host := "") (Or.inl (hw _ (List.mem_of_getElem? (i := 14) rfl))) Via.refl e19 F8 (g := (mkF m 74 #[.val (.ref b1), .val (.long x0), .second, .val (.long x5), .second, .val (.int (0 : Int32)), .val (.int (1 : Int32))] [(.ref b1)])) rfl rfl (hb hby dR_74)
    have hi47 : ¬ (1 : Int32) < 0 ∧ (1 : Int32).toNatClampNeg < (16 : Int32).toNatClampNeg := by decide
    have ha47 : cl11.slots[(1 : Int32).toNatClampNeg]? = some (.long x1) := H11 _ (by rw [S11]; exact hi47.2)
    refine own_go (b := T46.setTop (mkF m 82 #[.val (.ref b1), .val (.long x0), .second, .val (.long x5), .second, .val (.int (0 : Int32)), .val (.int (1 : Int32))] [(.int (lcmpW x1 x5))])) (fun t k => ?_) ?_
    · show Steps p.tables e below (T19.setTop (mkF m 67 #[.val (.ref b1), .val (.long x0), .second, .val (.long x5), .second, .val (.int (0 : Int32)), .val (.int (1 : Int32))] [(.int (lcmpW x2 x1))])) _
      refine XS.ifYes X19.here hx rfl (pc0 := 67) (pc' := 73) rfl (hb hby dR_67) rfl ((if0 _ _).trans (flt (fun q => hc67 ((lw_lt x2 x1).mp q))).2.1) (by decide) (by decide) ?_
      show Steps p.tables e below (T19.setTop (mkF m 73 #[.val (.ref b1), .val (.long x0), .second, .val (.long x5), .second, .val (.int (0 : Int32)), .val (.int (1 : Int32))] [])) _
      refine XS.aloadN X19.here hx rfl (hb hby dR_73) rfl rfl ?_
      show Steps p.tables e below (T19.setTop (mkF m 74 #[.val (.ref b1), .val (.long x0), .second, .val (.long x5), .second, .val (.int (0 : Int32)), .val (.int (1 : Int32))] [(.ref b1)])) _
      refine st46 _ ?_
      show Steps p.tables e below (T46.setTop (mkF m 77 #[.val (.ref b1), .val (.long x0), .second, .val (.long x5), .second, .val (.int (0 : Int32)), .val (.int (1 : Int32))] [(.ref q1)])) _
      refine XS.iload X46.here hx rfl (hb hby dR_77) rfl ?_
      show Steps p.tables e below (T46.setTop (mkF m 79 #[.val (.ref b1), .val (.long x0), .second, .val (.long x5), .second, .val (.int (0 : Int32)), .val (.int (1 : Int32))] [(.int (1 : Int32)), (.ref q1)])) _
      refine X46.laload hx (j := (1 : Int32)) (v := (.long x1)) (by rw [e46]; exact Ar11.1) (State.isArrayOf_alike hZ.alike Ar11.2.1) Ar11.2.2 (own_hin S11 hi47) ha47 (g := (mkF m 79 #[.val (.ref b1), .val (.long x0), .second, .val (.long x5), .second, .val (.int (0 : Int32)), .val (.int (1 : Int32))] [(.int (1 : Int32)), (.ref q1)])) rfl rfl (hb hby dR_79) _ ?_
      show Steps p.tables e below (T46.setTop (mkF m 80 #[.val (.ref b1), .val (.long x0), .second, .val (.long x5), .second, .val (.int (0 : Int32)), .val (.int (1 : Int32))] [(.long x1)])) _
      refine XS.lloadN X46.here hx rfl (hb hby dR_80) rfl ?_
      show Steps p.tables e below (T46.setTop (mkF m 81 #[.val (.ref b1), .val (.long x0), .second, .val (.long x5), .second, .val (.int (0 : Int32)), .val (.int (1 : Int32))] [(.long x5), (.long x1)])) _
      refine XS.lcmp X46.here hx rfl (hb hby dR_81) rfl ?_
      show Steps p.tables e below (T46.setTop (mkF m 82 #[.val (.ref b1), .val (.long x0), .second, .val (.long x5), .second, .val (.int (0 : Int32)), .val (.int (1 : Int32))] [(.int (lcmpW x1 x5))])) _
      exact k
    by_cases hc82 : x1 < x5
    · obtain ⟨T48, X48, e48, st48⟩ := getF X46 hx hZ hown (host := "") (Or.inl (hw _ (List.mem_of_getElem? (i := 14) rfl))) Via.refl e46 F8 (g := (mkF m 89 #[.val (.ref b1), .val (.long x0), .second, .val (.long x5), .second, .val (.int (0 : Int32)), .val (.int (1 : Int32))] [(.ref b1)])) rfl rfl (hb hby dR_89)
      obtain ⟨T49, X49, e49, st49⟩ := getF X48 hx hZ hown (host := "") (Or.inl (hw _ (List.mem_of_getElem? (i := 14) rfl))) Via.refl e48 F8 (g := (mkF m 95 #[.val (.ref b1), .val (.long x0), .second, .val (.long x5), .second, .val (.int (0 : Int32)), .val (.int (1 : Int32))] [(.ref b1), (.int (0 : Int32)), (.ref q1)])) rfl rfl (hb hby dR_95)
      have hi50 : ¬ (1 : Int32) < 0 ∧ (1 : Int32).toNatClampNeg < (16 : Int32).toNatClampNeg := by decide
      have ha50 : cl11.slots[(1 : Int32).toNatClampNeg]? = some (.long x1) := H11 _ (by rw [S11]; exact hi50.2)
      obtain ⟨T51, h51, X51, e51, W51, st51⟩ := stJ X49 hx hZ e49 Ar11 (j := (0 : Int32)) (by rw [S11]; decide) (g := (mkF m 101 #[.val (.ref b1), .val (.long x0), .second, .val (.long x5), .second, .val (.int (0 : Int32)), .val (.int (1 : Int32))] [(.long x1), (.int (0 : Int32)), (.ref q1)])) rfl rfl (hb hby dR_101)
      have N51 := Fr.snoc X51 N6 lo_q1
      obtain ⟨lc51, X51, N51⟩ := own_lc X51 N51
      have V52 : Arv Z h51 q1 k1 .long (16 : Int32) [(.long x1), (.long x1), (.long x2), (.long x3), (.long x4), (.long x5), (.long (0 : Int64)), (.long (0 : Int64)), (.long (0 : Int64)), (.long (0 : Int64)), (.long (0 : Int64)), (.long (0 : Int64)), (.long (0 : Int64)), (.long (0 : Int64)), (.long (0 : Int64)), (.long (0 : Int64))] (.long (0 : Int64)) := Arv.set Ar11 q11 S11 M11 H11 U11 rfl W51 0 rfl (by show 0 < 16; decide)
      have K51 := K6.wr W51 (Or.inl (List.mem_of_getElem? (i := 1) rfl))
      have F53 := F8.other W51 (Or.inl (Nat.ne_of_lt lt_q))
      have F54 := F7.other W51 (Or.inl (Nat.ne_of_lt lt_q))
      have E55 := E9.wr W51
      have Z51 : n0 ≤ h51.size := by rw [W51.size]; exact Z6
      obtain ⟨T56, X56, e56, st56⟩ := getF X51 hx hZ hown (host := "") (Or.inl (hw _ (List.mem_of_getElem? (i := 21) rfl))) Via.refl e51 F54 (g := (mkF m 33 #[.val (.ref b1), .val (.long x0), .second, .val (.long x5), .second, .val (.int (1 : Int32)), .val (.int (3 : Int32))] [(.ref b1), (.int (3 : Int32))])) rfl rfl (hb hby dR_33)
      have hc36_57 : (3 : Int32) < (5 : Int32) := (by decide)
      obtain ⟨T58, X58, e58, st58⟩ := getF X56 hx hZ hown (host := "") (Or.inl (hw _ (List.mem_of_getElem? (i := 21) rfl))) Via.refl e56 F54 (g := (mkF m 44 #[.val (.ref b1), .val (.long x0), .second, .val (.long x5), .second, .val (.int (1 : Int32)), .val (.int (3 : Int32))] [(.ref b1), (.int (4 : Int32))])) rfl rfl (hb hby dR_44)
      have hc47_59 : (4 : Int32) < (5 : Int32) := (by decide)
      obtain ⟨T60, X60, e60, st60⟩ := getF X58 hx hZ hown (host := "") (Or.inl (hw _ (List.mem_of_getElem? (i := 14) rfl))) Via.refl e58 F53 (g := (mkF m 51 #[.val (.ref b1), .val (.long x0), .second, .val (.long x5), .second, .val (.int (1 : Int32)), .val (.int (3 : Int32))] [(.ref b1)])) rfl rfl (hb hby dR_51)
      obtain ⟨cl61, Ar61, q61, S61, M61, H61, U61⟩ := id V52
      have hi62 : ¬ (4 : Int32) < 0 ∧ (4 : Int32).toNatClampNeg < (16 : Int32).toNatClampNeg := by decide
      have ha62 : cl61.slots[(4 : Int32).toNatClampNeg]? = some (.long x4) := H61 _ (by rw [S61]; exact hi62.2)
      obtain ⟨T63, X63, e63, st63⟩ := getF X60 hx hZ hown (host := "") (Or.inl (hw _ (List.mem_of_getElem? (i := 14) rfl))) Via.refl e60 F53 (g := (mkF m 60 #[.val (.ref b1), .val (.long x0), .second, .val (.long x5), .second, .val (.int (1 : Int32)), .val (.int (3 : Int32))] [(.ref b1), (.long x4)])) rfl rfl (hb hby dR_60)
      have hi64 : ¬ (3 : Int32) < 0 ∧ (3 : Int32).toNatClampNeg < (16 : Int32).toNatClampNeg := by decide
      have ha64 : cl61.slots[(3 : Int32).toNatClampNeg]? = some (.long x3) := H61 _ (by rw [S61]; exact hi64.2)
      refine own_go (b := T63.setTop (mkF m 67 #[.val (.ref b1), .val (.long x0), .second, .val (.long x5), .second, .val (.int (1 : Int32)), .val (.int (3 : Int32))] [(.int (lcmpW x4 x3))])) (fun t k => ?_) ?_
      · show Steps p.tables e below (T46.setTop (mkF m 82 #[.val (.ref b1), .val (.long x0), .second, .val (.long x5), .second, .val (.int (0 : Int32)), .val (.int (1 : Int32))] [(.int (lcmpW x1 x5))])) _
        refine XS.ifYes X46.here hx rfl (pc0 := 82) (pc' := 88) rfl (hb hby dR_82) rfl ((if0 _ _).trans (tlt ((lw_lt x1 x5).mpr hc82)).1) (by decide) (by decide) ?_
        show Steps p.tables e below (T46.setTop (mkF m 88 #[.val (.ref b1), .val (.long x0), .second, .val (.long x5), .second, .val (.int (0 : Int32)), .val (.int (1 : Int32))] [])) _
        refine XS.aloadN X46.here hx rfl (hb hby dR_88) rfl rfl ?_
        show Steps p.tables e below (T46.setTop (mkF m 89 #[.val (.ref b1), .val (.long x0), .second, .val (.long x5), .second, .val (.int (0 : Int32)), .val (.int (1 : Int32))] [(.ref b1)])) _
        refine st48 _ ?_
        show Steps p.tables e below (T48.setTop (mkF m 92 #[.val (.ref b1), .val (.long x0), .second, .val (.long x5), .second, .val (.int (0 : Int32)), .val (.int (1 : Int32))] [(.ref q1)])) _
        refine XS.iload X48.here hx rfl (hb hby dR_92) rfl ?_
        show Steps p.tables e below (T48.setTop (mkF m 94 #[.val (.ref b1), .val (.long x0), .second, .val (.long x5), .second, .val (.int (0 : Int32)), .val (.int (1 : Int32))] [(.int (0 : Int32)), (.ref q1)])) _
        refine XS.aloadN X48.here hx rfl (hb hby dR_94) rfl rfl ?_
        show Steps p.tables e below (T48.setTop (mkF m 95 #[.val (.ref b1), .val (.long x0), .second, .val (.long x5), .second, .val (.int (0 : Int32)), .val (.int (1 : Int32))] [(.ref b1), (.int (0 : Int32)), (.ref q1)])) _
        refine st49 _ ?_
        show Steps p.tables e below (T49.setTop (mkF m 98 #[.val (.ref b1), .val (.long x0), .second, .val (.long x5), .second, .val (.int (0 : Int32)), .val (.int (1 : Int32))] [(.ref q1), (.int (0 : Int32)), (.ref q1)])) _
        refine XS.iload X49.here hx rfl (hb hby dR_98) rfl ?_
        show Steps p.tables e below (T49.setTop (mkF m 100 #[.val (.ref b1), .val (.long x0), .second, .val (.long x5), .second, .val (.int (0 : Int32)), .val (.int (1 : Int32))] [(.int (1 : Int32)), (.ref q1), (.int (0 : Int32)), (.ref q1)])) _
        refine X49.laload hx (j := (1 : Int32)) (v := (.long x1)) (by rw [e49]; exact Ar11.1) (State.isArrayOf_alike hZ.alike Ar11.2.1) Ar11.2.2 (own_hin S11 hi50) ha50 (g := (mkF m 100 #[.val (.ref b1), .val (.long x0), .second, .val (.long x5), .second, .val (.int (0 : Int32)), .val (.int (1 : Int32))] [(.int (1 : Int32)), (.ref q1), (.int (0 : Int32)), (.ref q1)])) rfl rfl (hb hby dR_100) _ ?_
        show Steps p.tables e below (T49.setTop (mkF m 101 #[.val (.ref b1), .val (.long x0), .second, .val (.long x5), .second, .val (.int (0 : Int32)), .val (.int (1 : Int32))] [(.long x1), (.int (0 : Int32)), (.ref q1)])) _
        refine st51 _ ?_
        show Steps p.tables e below (T51.setTop (mkF m 102 #[.val (.ref b1), .val (.long x0), .second, .val (.long x5), .second, .val (.int (0 : Int32)), .val (.int (1 : Int32))] [])) _
        refine XS.iload X51.here hx rfl (hb hby dR_102) rfl ?_
        show Steps p.tables e below (T51.setTop (mkF m 104 #[.val (.ref b1), .val (.long x0), .second, .val (.long x5), .second, .val (.int (0 : Int32)), .val (.int (1 : Int32))] [(.int (1 : Int32))])) _
        refine XS.istore X51.here hx rfl (hb hby dR_104) rfl (l' := #[.val (.ref b1), .val (.long x0), .second, .val (.long x5), .second, .val (.int (1 : Int32)), .val (.int (1 : Int32))]) rfl ?_
        show Steps p.tables e below (T51.setTop (mkF m 106 #[.val (.ref b1), .val (.long x0), .second, .val (.long x5), .second, .val (.int (1 : Int32)), .val (.int (1 : Int32))] [])) _
        refine XS.iconst X51.here hx rfl (hb hby dR_106) ?_
        show Steps p.tables e below (T51.setTop (mkF m 107 #[.val (.ref b1), .val (.long x0), .second, .val (.long x5), .second, .val (.int (1 : Int32)), .val (.int (1 : Int32))] [(.int (2 : Int32))])) _
        refine XS.iload X51.here hx rfl (hb hby dR_107) rfl ?_
        show Steps p.tables e below (T51.setTop (mkF m 109 #[.val (.ref b1), .val (.long x0), .second, .val (.long x5), .second, .val (.int (1 : Int32)), .val (.int (1 : Int32))] [(.int (1 : Int32)), (.int (2 : Int32))])) _
        refine XS.imul X51.here hx rfl (hb hby dR_109) rfl ?_
        show Steps p.tables e below (T51.setTop (mkF m 110 #[.val (.ref b1), .val (.long x0), .second, .val (.long x5), .second, .val (.int (1 : Int32)), .val (.int (1 : Int32))] [(.int (2 : Int32))])) _
        refine XS.iconst X51.here hx rfl (hb hby dR_110) ?_
        show Steps p.tables e below (T51.setTop (mkF m 111 #[.val (.ref b1), .val (.long x0), .second, .val (.long x5), .second, .val (.int (1 : Int32)), .val (.int (1 : Int32))] [(.int (1 : Int32)), (.int (2 : Int32))])) _
        refine XS.iadd X51.here hx rfl (hb hby dR_111) rfl ?_
        show Steps p.tables e below (T51.setTop (mkF m 112 #[.val (.ref b1), .val (.long x0), .second, .val (.long x5), .second, .val (.int (1 : Int32)), .val (.int (1 : Int32))] [(.int (3 : Int32))])) _
        refine XS.istore X51.here hx rfl (hb hby dR_112) rfl (l' := #[.val (.ref b1), .val (.long x0), .second, .val (.long x5), .second, .val (.int (1 : Int32)), .val (.int (3 : Int32))]) rfl ?_
        show Steps p.tables e below (T51.setTop (mkF m 114 #[.val (.ref b1), .val (.long x0), .second, .val (.long x5), .second, .val (.int (1 : Int32)), .val (.int (3 : Int32))] [])) _
        refine XS.goto X51.here hx rfl (pc0 := 114) (pc' := 30) rfl (hb hby dR_114) (by decide) (by decide) ?_
        show Steps p.tables e below (T51.setTop (mkF m 30 #[.val (.ref b1), .val (.long x0), .second, .val (.long x5), .second, .val (.int (1 : Int32)), .val (.int (3 : Int32))] [])) _
        refine XS.iload X51.here hx rfl (hb hby dR_30) rfl ?_
        show Steps p.tables e below (T51.setTop (mkF m 32 #[.val (.ref b1), .val (.long x0), .second, .val (.long x5), .second, .val (.int (1 : Int32)), .val (.int (3 : Int32))] [(.int (3 : Int32))])) _
        refine XS.aloadN X51.here hx rfl (hb hby dR_32) rfl rfl ?_
        show Steps p.tables e below (T51.setTop (mkF m 33 #[.val (.ref b1), .val (.long x0), .second, .val (.long x5), .second, .val (.int (1 : Int32)), .val (.int (3 : Int32))] [(.ref b1), (.int (3 : Int32))])) _
        refine st56 _ ?_
        show Steps p.tables e below (T56.setTop (mkF m 36 #[.val (.ref b1), .val (.long x0), .second, .val (.long x5), .second, .val (.int (1 : Int32)), .val (.int (3 : Int32))] [(.int (5 : Int32)), (.int (3 : Int32))])) _
        refine XS.icmpNo X56.here hx rfl (hb hby dR_36) rfl (tlt hc36_57).2.1 ?_
        show Steps p.tables e below (T56.setTop (mkF m 39 #[.val (.ref b1), .val (.long x0), .second, .val (.long x5), .second, .val (.int (1 : Int32)), .val (.int (3 : Int32))] [])) _
        refine XS.iload X56.here hx rfl (hb hby dR_39) rfl ?_
        show Steps p.tables e below (T56.setTop (mkF m 41 #[.val (.ref b1), .val (.long x0), .second, .val (.long x5), .second, .val (.int (1 : Int32)), .val (.int (3 : Int32))] [(.int (3 : Int32))])) _
        refine XS.iconst X56.here hx rfl (hb hby dR_41) ?_
        show Steps p.tables e below (T56.setTop (mkF m 42 #[.val (.ref b1), .val (.long x0), .second, .val (.long x5), .second, .val (.int (1 : Int32)), .val (.int (3 : Int32))] [(.int (1 : Int32)), (.int (3 : Int32))])) _
        refine XS.iadd X56.here hx rfl (hb hby dR_42) rfl ?_
        show Steps p.tables e below (T56.setTop (mkF m 43 #[.val (.ref b1), .val (.long x0), .second, .val (.long x5), .second, .val (.int (1 : Int32)), .val (.int (3 : Int32))] [(.int (4 : Int32))])) _
        refine XS.aloadN X56.here hx rfl (hb hby dR_43) rfl rfl ?_
        show Steps p.tables e below (T56.setTop (mkF m 44 #[.val (.ref b1), .val (.long x0), .second, .val (.long x5), .second, .val (.int (1 : Int32)), .val (.int (3 : Int32))] [(.ref b1), (.int (4 : Int32))])) _
        refine st58 _ ?_
        show Steps p.tables e below (T58.setTop (mkF m 47 #[.val (.ref b1), .val (.long x0), .second, .val (.long x5), .second, .val (.int (1 : Int32)), .val (.int (3 : Int32))] [(.int (5 : Int32)), (.int (4 : Int32))])) _
        refine XS.icmpNo X58.here hx rfl (hb hby dR_47) rfl (tlt hc47_59).2.1 ?_
        show Steps p.tables e below (T58.setTop (mkF m 50 #[.val (.ref b1), .val (.long x0), .second, .val (.long x5), .second, .val (.int (1 : Int32)), .val (.int (3 : Int32))] [])) _
        refine XS.aloadN X58.here hx rfl (hb hby dR_50) rfl rfl ?_
        show Steps p.tables e below (T58.setTop (mkF m 51 #[.val (.ref b1), .val (.long x0), .second, .val (.long x5), .second, .val (.int (1 : Int32)), .val (.int (3 : Int32))] [(.ref b1)])) _
        refine st60 _ ?_
        show Steps p.tables e below (T60.setTop (mkF m 54 #[.val (.ref b1), .val (.long x0), .second, .val (.long x5), .second, .val (.int (1 : Int32)), .val (.int (3 : Int32))] [(.ref q1)])) _
        refine XS.iload X60.here hx rfl (hb hby dR_54) rfl ?_
        show Steps p.tables e below (T60.setTop (mkF m 56 #[.val (.ref b1), .val (.long x0), .second, .val (.long x5), .second, .val (.int (1 : Int32)), .val (.int (3 : Int32))] [(.int (3 : Int32)), (.ref q1)])) _
        refine XS.iconst X60.here hx rfl (hb hby dR_56) ?_
        show Steps p.tables e below (T60.setTop (mkF m 57 #[.val (.ref b1), .val (.long x0), .second, .val (.long x5), .second, .val (.int (1 : Int32)), .val (.int (3 : Int32))] [(.int (1 : Int32)), (.int (3 : Int32)), (.ref q1)])) _
        refine XS.iadd X60.here hx rfl (hb hby dR_57) rfl ?_
        show Steps p.tables e below (T60.setTop (mkF m 58 #[.val (.ref b1), .val (.long x0), .second, .val (.long x5), .second, .val (.int (1 : Int32)), .val (.int (3 : Int32))] [(.int (4 : Int32)), (.ref q1)])) _
        refine X60.laload hx (j := (4 : Int32)) (v := (.long x4)) (by rw [e60]; exact Ar61.1) (State.isArrayOf_alike hZ.alike Ar61.2.1) Ar61.2.2 (own_hin S61 hi62) ha62 (g := (mkF m 58 #[.val (.ref b1), .val (.long x0), .second, .val (.long x5), .second, .val (.int (1 : Int32)), .val (.int (3 : Int32))] [(.int (4 : Int32)), (.ref q1)])) rfl rfl (hb hby dR_58) _ ?_
        show Steps p.tables e below (T60.setTop (mkF m 59 #[.val (.ref b1), .val (.long x0), .second, .val (.long x5), .second, .val (.int (1 : Int32)), .val (.int (3 : Int32))] [(.long x4)])) _
        refine XS.aloadN X60.here hx rfl (hb hby dR_59) rfl rfl ?_
        show Steps p.tables e below (T60.setTop (mkF m 60 #[.val (.ref b1), .val (.long x0), .second, .val (.long x5), .second, .val (.int (1 : Int32)), .val (.int (3 : Int32))] [(.ref b1), (.long x4)])) _
        refine st63 _ ?_
        show Steps p.tables e below (T63.setTop (mkF m 63 #[.val (.ref b1), .val (.long x0), .second, .val (.long x5), .second, .val (.int (1 : Int32)), .val (.int (3 : Int32))] [(.ref q1), (.long x4)])) _
        refine XS.iload X63.here hx rfl (hb hby dR_63) rfl ?_
        show Steps p.tables e below (T63.setTop (mkF m 65 #[.val (.ref b1), .val (.long x0), .second, .val (.long x5), .second, .val (.int (1 : Int32)), .val (.int (3 : Int32))] [(.int (3 : Int32)), (.ref q1), (.long x4)])) _
        refine X63.laload hx (j := (3 : Int32)) (v := (.long x3)) (by rw [e63]; exact Ar61.1) (State.isArrayOf_alike hZ.alike Ar61.2.1) Ar61.2.2 (own_hin S61 hi64) ha64 (g := (mkF m 65 #[.val (.ref b1), .val (.long x0), .second, .val (.long x5), .second, .val (.int (1 : Int32)), .val (.int (3 : Int32))] [(.int (3 : Int32)), (.ref q1), (.long x4)])) rfl rfl (hb hby dR_65) _ ?_
        show Steps p.tables e below (T63.setTop (mkF m 66 #[.val (.ref b1), .val (.long x0), .second, .val (.long x5), .second, .val (.int (1 : Int32)), .val (.int (3 : Int32))] [(.long x3), (.long x4)])) _
        refine XS.lcmp X63.here hx rfl (hb hby dR_66) rfl ?_
        show Steps p.tables e below (T63.setTop (mkF m 67 #[.val (.ref b1), .val (.long x0), .second, .val (.long x5), .second, .val (.int (1 : Int32)), .val (.int (3 : Int32))] [(.int (lcmpW x4 x3))])) _
        exact k
      by_cases hc67x : x4 < x3
      · obtain ⟨T65, X65, e65, st65⟩ := getF X63 hx hZ hown (host := "") (Or.inl (hw _ (List.mem_of_getElem? (i := 14) rfl))) Via.refl e63 F53 (g := (mkF m 74 #[.val (.ref b1), .val (.long x0), .second, .val (.long x5), .second, .val (.int (1 : Int32)), .val (.int (4 : Int32))] [(.ref b1)])) rfl rfl (hb hby dR_74)
        have hi66 : ¬ (4 : Int32) < 0 ∧ (4 : Int32).toNatClampNeg < (16 : Int32).toNatClampNeg := by decide
        have ha66 : cl61.slots[(4 : Int32).toNatClampNeg]? = some (.long x4) := H61 _ (by rw [S61]; exact hi66.2)
        refine own_go (b := T65.setTop (mkF m 82 #[.val (.ref b1), .val (.long x0), .second, .val (.long x5), .second, .val (.int (1 : Int32)), .val (.int (4 : Int32))] [(.int (lcmpW x4 x5))])) (fun t k => ?_) ?_
        · show Steps p.tables e below (T63.setTop (mkF m 67 #[.val (.ref b1), .val (.long x0), .second, .val (.long x5), .second, .val (.int (1 : Int32)), .val (.int (3 : Int32))] [(.int (lcmpW x4 x3))])) _
          refine XS.ifNo X63.here hx rfl (hb hby dR_67) rfl ((if0 _ _).trans (tlt ((lw_lt x4 x3).mpr hc67x)).2.1) ?_
          show Steps p.tables e below (T63.setTop (mkF m 70 #[.val (.ref b1), .val (.long x0), .second, .val (.long x5), .second, .val (.int (1 : Int32)), .val (.int (3 : Int32))] [])) _
          refine XS.iinc X63.here hx rfl (hb hby dR_70) rfl (l' := #[.val (.ref b1), .val (.long x0), .second, .val (.long x5), .second, .val (.int (1 : Int32)), .val (.int (4 : Int32))]) rfl ?_
          show Steps p.tables e below (T63.setTop (mkF m 73 #[.val (.ref b1), .val (.long x0), .second, .val (.long x5), .second, .val (.int (1 : Int32)), .val (.int (4 : Int32))] [])) _
          refine XS.aloadN X63.here hx rfl (hb hby dR_73) rfl rfl ?_
          show Steps p.tables e below (T63.setTop (mkF m 74 #[.val (.ref b1), .val (.long x0), .second, .val (.long x5), .second, .val (.int (1 : Int32)), .val (.int (4 : Int32))] [(.ref b1)])) _
          refine st65 _ ?_
          show Steps p.tables e below (T65.setTop (mkF m 77 #[.val (.ref b1), .val (.long x0), .second, .val (.long x5), .second, .val (.int (1 : Int32)), .val (.int (4 : Int32))] [(.ref q1)])) _
          refine XS.iload X65.here hx rfl (hb hby dR_77) rfl ?_
          show Steps p.tables e below (T65.setTop (mkF m 79 #[.val (.ref b1), .val (.long x0), .second, .val (.long x5), .second, .val (.int (1 : Int32)), .val (.int (4 : Int32))] [(.int (4 : Int32)), (.ref q1)])) _
          refine X65.laload hx (j := (4 : Int32)) (v := (.long x4)) (by rw [e65]; exact Ar61.1) (State.isArrayOf_alike hZ.alike Ar61.2.1) Ar61.2.2 (own_hin S61 hi66) ha66 (g := (mkF m 79 #[.val (.ref b1), .val (.long x0), .second, .val (.long x5), .second, .val (.int (1 : Int32)), .val (.int (4 : Int32))] [(.int (4 : Int32)), (.ref q1)])) rfl rfl (hb hby dR_79) _ ?_
          show Steps p.tables e below (T65.setTop (mkF m 80 #[.val (.ref b1), .val (.long x0), .second, .val (.long x5), .second, .val (.int (1 : Int32)), .val (.int (4 : Int32))] [(.long x4)])) _
          refine XS.lloadN X65.here hx rfl (hb hby dR_80) rfl ?_
          show Steps p.tables e below (T65.setTop (mkF m 81 #[.val (.ref b1), .val (.long x0), .second, .val (.long x5), .second, .val (.int (1 : Int32)), .val (.int (4 : Int32))] [(.long x5), (.long x4)])) _
          refine XS.lcmp X65.here hx rfl (hb hby dR_81) rfl ?_
          show Steps p.tables e below (T65.setTop (mkF m 82 #[.val (.ref b1), .val (.long x0), .second, .val (.long x5), .second, .val (.int (1 : Int32)), .val (.int (4 : Int32))] [(.int (lcmpW x4 x5))])) _
          exact k
        by_cases hc82x : x4 < x5
        · obtain ⟨T67, X67, e67, st67⟩ := getF X65 hx hZ hown (host := "") (Or.inl (hw _ (List.mem_of_getElem? (i := 14) rfl))) Via.refl e65 F53 (g := (mkF m 89 #[.val (.ref b1), .val (.long x0), .second, .val (.long x5), .second, .val (.int (1 : Int32)), .val (.int (4 : Int32))] [(.ref b1)])) rfl rfl (hb hby dR_89)
          obtain ⟨T68, X68, e68, st68⟩ := getF X67 hx hZ hown (host := "") (Or.inl (hw _ (List.mem_of_getElem? (i := 14) rfl))) Via.refl e67 F53 (g := (mkF m 95 #[.val (.ref b1), .val (.long x0), .second, .val (.long x5), .second, .val (.int (1 : Int32)), .val (.int (4 : Int32))] [(.ref b1), (.int (1 : Int32)), (.ref q1)])) rfl rfl (hb hby dR_95)
          have hi69 : ¬ (4 : Int32) < 0 ∧ (4 : Int32).toNatClampNeg < (16 : Int32).toNatClampNeg := by decide
          have ha69 : cl61.slots[(4 : Int32).toNatClampNeg]? = some (.long x4) := H61 _ (by rw [S61]; exact hi69.2)
          obtain ⟨T70, h70, X70, e70, W70, st70⟩ := stJ X68 hx hZ e68 Ar61 (j := (1 : Int32)) (by rw [S61]; decide) (g := (mkF m 101 #[.val (.ref b1), .val (.long x0), .second, .val (.long x5), .second, .val (.int (1 : Int32)), .val (.int (4 : Int32))] [(.long x4), (.int (1 : Int32)), (.ref q1)])) rfl rfl (hb hby dR_101)
          have N70 := Fr.snoc X70 N51 lo_q1
          obtain ⟨lc70, X70, N70⟩ := own_lc X70 N70
          have V71 : Arv Z h70 q1 k1 .long (16 : Int32) [(.long x1), (.long x4), (.long x2), (.long x3), (.long x4), (.long x5), (.long (0 : Int64)), (.long (0 : Int64)), (.long (0 : Int64)), (.long (0 : Int64)), (.long (0 : Int64)), (.long (0 : Int64)), (.long (0 : Int64)), (.long (0 : Int64)), (.long (0 : Int64)), (.long (0 : Int64))] (.long (0 : Int64)) := Arv.set Ar61 q61 S61 M61 H61 U61 rfl W70 1 rfl (by show 1 < 16; decide)
          have K70 := K51.wr W70 (Or.inl (List.mem_of_getElem? (i := 1) rfl))
          have F72 := F53.other W70 (Or.inl (Nat.ne_of_lt lt_q))
          have F73 := F54.other W70 (Or.inl (Nat.ne_of_lt lt_q))
          have E74 := E55.wr W70
          have Z70 : n0 ≤ h70.size := by rw [W70.size]; exact Z51
          obtain ⟨T75, X75, e75, st75⟩ := getF X70 hx hZ hown (host := "") (Or.inl (hw _ (List.mem_of_getElem? (i := 21) rfl))) Via.refl e70 F73 (g := (mkF m 33 #[.val (.ref b1), .val (.long x0), .second, .val (.long x5), .second, .val (.int (4 : Int32)), .val (.int (9 : Int32))] [(.ref b1), (.int (9 : Int32))])) rfl rfl (hb hby dR_33)
          have hc36_76 : ¬ ((9 : Int32) < (5 : Int32)) := (by decide)
          obtain ⟨T77, X77, e77, st77⟩ := getF X75 hx hZ hown (host := "") (Or.inl (hw _ (List.mem_of_getElem? (i := 14) rfl))) Via.refl e75 F72 (g := (mkF m 118 #[.val (.ref b1), .val (.long x0), .second, .val (.long x5), .second, .val (.int (4 : Int32)), .val (.int (9 : Int32))] [(.ref b1)])) rfl rfl (hb hby dR_118)
          obtain ⟨cl78, Ar78, q78, S78, M78, H78, U78⟩ := id V71
          obtain ⟨T79, h79, X79, e79, W79, st79⟩ := stJ X77 hx hZ e77 Ar78 (j := (4 : Int32)) (by rw [S78]; decide) (g := (mkF m 124 #[.val (.ref b1), .val (.long x0), .second, .val (.long x5), .second, .val (.int (4 : Int32)), .val (.int (9 : Int32))] [(.long x5), (.int (4 : Int32)), (.ref q1)])) rfl rfl (hb hby dR_124)
          have N79 := Fr.snoc X79 N70 lo_q1
          obtain ⟨lc79, X79, N79⟩ := own_lc X79 N79
          have V80 : Arv Z h79 q1 k1 .long (16 : Int32) [(.long x1), (.long x4), (.long x2), (.long x3), (.long x5), (.long x5), (.long (0 : Int64)), (.long (0 : Int64)), (.long (0 : Int64)), (.long (0 : Int64)), (.long (0 : Int64)), (.long (0 : Int64)), (.long (0 : Int64)), (.long (0 : Int64)), (.long (0 : Int64)), (.long (0 : Int64))] (.long (0 : Int64)) := Arv.set Ar78 q78 S78 M78 H78 U78 rfl W79 4 rfl (by show 4 < 16; decide)
          have K79 := K70.wr W79 (Or.inl (List.mem_of_getElem? (i := 1) rfl))
          have F81 := F72.other W79 (Or.inl (Nat.ne_of_lt lt_q))
          have F82 := F73.other W79 (Or.inl (Nat.ne_of_lt lt_q))
          have E83 := E74.wr W79
          have Z79 : n0 ≤ h79.size := by rw [W79.size]; exact Z70
          refine own_end X79 Bd.notSynchronized (v := some (.long x0)) (fun h => by rw [Bd.returns] at h; cases h) (fun fs hr => ?_) e79 ?_ (by decide) (by decide)
          · show Steps p.tables e below (T65.setTop (mkF m 82 #[.val (.ref b1), .val (.long x0), .second, .val (.long x5), .second, .val (.int (1 : Int32)), .val (.int (4 : Int32))] [(.int (lcmpW x4 x5))])) _
            refine XS.ifYes X65.here hx rfl (pc0 := 82) (pc' := 88) rfl (hb hby dR_82) rfl ((if0 _ _).trans (tlt ((lw_lt x4 x5).mpr hc82x)).1) (by decide) (by decide) ?_
            show Steps p.tables e below (T65.setTop (mkF m 88 #[.val (.ref b1), .val (.long x0), .second, .val (.long x5), .second, .val (.int (1 : Int32)), .val (.int (4 : Int32))] [])) _
            refine XS.aloadN X65.here hx rfl (hb hby dR_88) rfl rfl ?_
            show Steps p.tables e below (T65.setTop (mkF m 89 #[.val (.ref b1), .val (.long x0), .second, .val (.long x5), .second, .val (.int (1 : Int32)), .val (.int (4 : Int32))] [(.ref b1)])) _
            refine st67 _ ?_
            show Steps p.tables e below (T67.setTop (mkF m 92 #[.val (.ref b1), .val (.long x0), .second, .val (.long x5), .second, .val (.int (1 : Int32)), .val (.int (4 : Int32))] [(.ref q1)])) _
            refine XS.iload X67.here hx rfl (hb hby dR_92) rfl ?_
            show Steps p.tables e below (T67.setTop (mkF m 94 #[.val (.ref b1), .val (.long x0), .second, .val (.long x5), .second, .val (.int (1 : Int32)), .val (.int (4 : Int32))] [(.int (1 : Int32)), (.ref q1)])) _
            refine XS.aloadN X67.here hx rfl (hb hby dR_94) rfl rfl ?_
            show Steps p.tables e below (T67.setTop (mkF m 95 #[.val (.ref b1), .val (.long x0), .second, .val (.long x5), .second, .val (.int (1 : Int32)), .val (.int (4 : Int32))] [(.ref b1), (.int (1 : Int32)), (.ref q1)])) _
            refine st68 _ ?_
            show Steps p.tables e below (T68.setTop (mkF m 98 #[.val (.ref b1), .val (.long x0), .second, .val (.long x5), .second, .val (.int (1 : Int32)), .val (.int (4 : Int32))] [(.ref q1), (.int (1 : Int32)), (.ref q1)])) _
            refine XS.iload X68.here hx rfl (hb hby dR_98) rfl ?_
            show Steps p.tables e below (T68.setTop (mkF m 100 #[.val (.ref b1), .val (.long x0), .second, .val (.long x5), .second, .val (.int (1 : Int32)), .val (.int (4 : Int32))] [(.int (4 : Int32)), (.ref q1), (.int (1 : Int32)), (.ref q1)])) _
            refine X68.laload hx (j := (4 : Int32)) (v := (.long x4)) (by rw [e68]; exact Ar61.1) (State.isArrayOf_alike hZ.alike Ar61.2.1) Ar61.2.2 (own_hin S61 hi69) ha69 (g := (mkF m 100 #[.val (.ref b1), .val (.long x0), .second, .val (.long x5), .second, .val (.int (1 : Int32)), .val (.int (4 : Int32))] [(.int (4 : Int32)), (.ref q1), (.int (1 : Int32)), (.ref q1)])) rfl rfl (hb hby dR_100) _ ?_
            show Steps p.tables e below (T68.setTop (mkF m 101 #[.val (.ref b1), .val (.long x0), .second, .val (.long x5), .second, .val (.int (1 : Int32)), .val (.int (4 : Int32))] [(.long x4), (.int (1 : Int32)), (.ref q1)])) _
            refine st70 _ ?_
            show Steps p.tables e below (T70.setTop (mkF m 102 #[.val (.ref b1), .val (.long x0), .second, .val (.long x5), .second, .val (.int (1 : Int32)), .val (.int (4 : Int32))] [])) _
            refine XS.iload X70.here hx rfl (hb hby dR_102) rfl ?_
            show Steps p.tables e below (T70.setTop (mkF m 104 #[.val (.ref b1), .val (.long x0), .second, .val (.long x5), .second, .val (.int (1 : Int32)), .val (.int (4 : Int32))] [(.int (4 : Int32))])) _
            refine XS.istore X70.here hx rfl (hb hby dR_104) rfl (l' := #[.val (.ref b1), .val (.long x0), .second, .val (.long x5), .second, .val (.int (4 : Int32)), .val (.int (4 : Int32))]) rfl ?_
            show Steps p.tables e below (T70.setTop (mkF m 106 #[.val (.ref b1), .val (.long x0), .second, .val (.long x5), .second, .val (.int (4 : Int32)), .val (.int (4 : Int32))] [])) _
            refine XS.iconst X70.here hx rfl (hb hby dR_106) ?_
            show Steps p.tables e below (T70.setTop (mkF m 107 #[.val (.ref b1), .val (.long x0), .second, .val (.long x5), .second, .val (.int (4 : Int32)), .val (.int (4 : Int32))] [(.int (2 : Int32))])) _
            refine XS.iload X70.here hx rfl (hb hby dR_107) rfl ?_
            show Steps p.tables e below (T70.setTop (mkF m 109 #[.val (.ref b1), .val (.long x0), .second, .val (.long x5), .second, .val (.int (4 : Int32)), .val (.int (4 : Int32))] [(.int (4 : Int32)), (.int (2 : Int32))])) _
            refine XS.imul X70.here hx rfl (hb hby dR_109) rfl ?_
            show Steps p.tables e below (T70.setTop (mkF m 110 #[.val (.ref b1), .val (.long x0), .second, .val (.long x5), .second, .val (.int (4 : Int32)), .val (.int (4 : Int32))] [(.int (8 : Int32))])) _
            refine XS.iconst X70.here hx rfl (hb hby dR_110) ?_
            show Steps p.tables e below (T70.setTop (mkF m 111 #[.val (.ref b1), .val (.long x0), .second, .val (.long x5), .second, .val (.int (4 : Int32)), .val (.int (4 : Int32))] [(.int (1 : Int32)), (.int (8 : Int32))])) _
            refine XS.iadd X70.here hx rfl (hb hby dR_111) rfl ?_
            show Steps p.tables e below (T70.setTop (mkF m 112 #[.val (.ref b1), .val (.long x0), .second, .val (.long x5), .second, .val (.int (4 : Int32)), .val (.int (4 : Int32))] [(.int (9 : Int32))])) _
            refine XS.istore X70.here hx rfl (hb hby dR_112) rfl (l' := #[.val (.ref b1), .val (.long x0), .second, .val (.long x5), .second, .val (.int (4 : Int32)), .val (.int (9 : Int32))]) rfl ?_
            show Steps p.tables e below (T70.setTop (mkF m 114 #[.val (.ref b1), .val (.long x0), .second, .val (.long x5), .second, .val (.int (4 : Int32)), .val (.int (9 : Int32))] [])) _
            refine XS.goto X70.here hx rfl (pc0 := 114) (pc' := 30) rfl (hb hby dR_114) (by decide) (by decide) ?_
            show Steps p.tables e below (T70.setTop (mkF m 30 #[.val (.ref b1), .val (.long x0), .second, .val (.long x5), .second, .val (.int (4 : Int32)), .val (.int (9 : Int32))] [])) _
            refine XS.iload X70.here hx rfl (hb hby dR_30) rfl ?_
            show Steps p.tables e below (T70.setTop (mkF m 32 #[.val (.ref b1), .val (.long x0), .second, .val (.long x5), .second, .val (.int (4 : Int32)), .val (.int (9 : Int32))] [(.int (9 : Int32))])) _
            refine XS.aloadN X70.here hx rfl (hb hby dR_32) rfl rfl ?_
            show Steps p.tables e below (T70.setTop (mkF m 33 #[.val (.ref b1), .val (.long x0), .second, .val (.long x5), .second, .val (.int (4 : Int32)), .val (.int (9 : Int32))] [(.ref b1), (.int (9 : Int32))])) _
            refine st75 _ ?_
            show Steps p.tables e below (T75.setTop (mkF m 36 #[.val (.ref b1), .val (.long x0), .second, .val (.long x5), .second, .val (.int (4 : Int32)), .val (.int (9 : Int32))] [(.int (5 : Int32)), (.int (9 : Int32))])) _
            refine XS.icmpYes X75.here hx rfl (pc0 := 36) (pc' := 117) rfl (hb hby dR_36) rfl (flt hc36_76).2.1 (by decide) (by decide) ?_
            show Steps p.tables e below (T75.setTop (mkF m 117 #[.val (.ref b1), .val (.long x0), .second, .val (.long x5), .second, .val (.int (4 : Int32)), .val (.int (9 : Int32))] [])) _
            refine XS.aloadN X75.here hx rfl (hb hby dR_117) rfl rfl ?_
            show Steps p.tables e below (T75.setTop (mkF m 118 #[.val (.ref b1), .val (.long x0), .second, .val (.long x5), .second, .val (.int (4 : Int32)), .val (.int (9 : Int32))] [(.ref b1)])) _
            refine st77 _ ?_
            show Steps p.tables e below (T77.setTop (mkF m 121 #[.val (.ref b1), .val (.long x0), .second, .val (.long x5), .second, .val (.int (4 : Int32)), .val (.int (9 : Int32))] [(.ref q1)])) _
            refine XS.iload X77.here hx rfl (hb hby dR_121) rfl ?_
            show Steps p.tables e below (T77.setTop (mkF m 123 #[.val (.ref b1), .val (.long x0), .second, .val (.long x5), .second, .val (.int (4 : Int32)), .val (.int (9 : Int32))] [(.int (4 : Int32)), (.ref q1)])) _
            refine XS.lloadN X77.here hx rfl (hb hby dR_123) rfl ?_
            show Steps p.tables e below (T77.setTop (mkF m 124 #[.val (.ref b1), .val (.long x0), .second, .val (.long x5), .second, .val (.int (4 : Int32)), .val (.int (9 : Int32))] [(.long x5), (.int (4 : Int32)), (.ref q1)])) _
            refine st79 _ ?_
            show Steps p.tables e below (T79.setTop (mkF m 125 #[.val (.ref b1), .val (.long x0), .second, .val (.long x5), .second, .val (.int (4 : Int32)), .val (.int (9 : Int32))] [])) _
            refine XS.lloadN X79.here hx rfl (hb hby dR_125) rfl ?_
            show Steps p.tables e below (T79.setTop (mkF m 126 #[.val (.ref b1), .val (.long x0), .second, .val (.long x5), .second, .val (.int (4 : Int32)), .val (.int (9 : Int32))] [(.long x0)])) _
            exact X79.lreturnOut hx Bd.returns (hb hby dR_126) hr
          · exact ⟨rfl, N79, K79, E83, F81, F82, _, _, _, _, _, _, by rw [own_rem_6, if_neg hc67, if_pos hc82, if_pos hc67x, if_pos hc82x], V80⟩
        · obtain ⟨T84, X84, e84, st84⟩ := getF X65 hx hZ hown (host := "") (Or.inl (hw _ (List.mem_of_getElem? (i := 14) rfl))) Via.refl e65 F53 (g := (mkF m 118 #[.val (.ref b1), .val (.long x0), .second, .val (.long x5), .second, .val (.int (1 : Int32)), .val (.int (4 : Int32))] [(.ref b1)])) rfl rfl (hb hby dR_118)
          obtain ⟨T85, h85, X85, e85, W85, st85⟩ := stJ X84 hx hZ e84 Ar61 (j := (1 : Int32)) (by rw [S61]; decide) (g := (mkF m 124 #[.val (.ref b1), .val (.long x0), .second, .val (.long x5), .second, .val (.int (1 : Int32)), .val (.int (4 : Int32))] [(.long x5), (.int (1 : Int32)), (.ref q1)])) rfl rfl (hb hby dR_124)
          have N85 := Fr.snoc X85 N51 lo_q1
          obtain ⟨lc85, X85, N85⟩ := own_lc X85 N85
          have V86 : Arv Z h85 q1 k1 .long (16 : Int32) [(.long x1), (.long x5), (.long x2), (.long x3), (.long x4), (.long x5), (.long (0 : Int64)), (.long (0 : Int64)), (.long (0 : Int64)), (.long (0 : Int64)), (.long (0 : Int64)), (.long (0 : Int64)), (.long (0 : Int64)), (.long (0 : Int64)), (.long (0 : Int64)), (.long (0 : Int64))] (.long (0 : Int64)) := Arv.set Ar61 q61 S61 M61 H61 U61 rfl W85 1 rfl (by show 1 < 16; decide)
          have K85 := K51.wr W85 (Or.inl (List.mem_of_getElem? (i := 1) rfl))
          have F87 := F53.other W85 (Or.inl (Nat.ne_of_lt lt_q))
          have F88 := F54.other W85 (Or.inl (Nat.ne_of_lt lt_q))
          have E89 := E55.wr W85
          have Z85 : n0 ≤ h85.size := by rw [W85.size]; exact Z51
          refine own_end X85 Bd.notSynchronized (v := some (.long x0)) (fun h => by rw [Bd.returns] at h; cases h) (fun fs hr => ?_) e85 ?_ (by decide) (by decide)
          · show Steps p.tables e below (T65.setTop (mkF m 82 #[.val (.ref b1), .val (.long x0), .second, .val (.long x5), .second, .val (.int (1 : Int32)), .val (.int (4 : Int32))] [(.int (lcmpW x4 x5))])) _
            refine XS.ifNo X65.here hx rfl (hb hby dR_82) rfl ((if0 _ _).trans (flt (fun q => hc82x ((lw_lt x4 x5).mp q))).1) ?_
            show Steps p.tables e below (T65.setTop (mkF m 85 #[.val (.ref b1), .val (.long x0), .second, .val (.long x5), .second, .val (.int (1 : Int32)), .val (.int (4 : Int32))] [])) _
            refine XS.goto X65.here hx rfl (pc0 := 85) (pc' := 117) rfl (hb hby dR_85) (by decide) (by decide) ?_
            show Steps p.tables e below (T65.setTop (mkF m 117 #[.val (.ref b1), .val (.long x0), .second, .val (.long x5), .second, .val (.int (1 : Int32)), .val (.int (4 : Int32))] [])) _
            refine XS.aloadN X65.here hx rfl (hb hby dR_117) rfl rfl ?_
            show Steps p.tables e below (T65.setTop (mkF m 118 #[.val (.ref b1), .val (.long x0), .second, .val (.long x5), .second, .val (.int (1 : Int32)), .val (.int (4 : Int32))] [(.ref b1)])) _
            refine st84 _ ?_
            show Steps p.tables e below (T84.setTop (mkF m 121 #[.val (.ref b1), .val (.long x0), .second, .val (.long x5), .second, .val (.int (1 : Int32)), .val (.int (4 : Int32))] [(.ref q1)])) _
            refine XS.iload X84.here hx rfl (hb hby dR_121) rfl ?_
            show Steps p.tables e below (T84.setTop (mkF m 123 #[.val (.ref b1), .val (.long x0), .second, .val (.long x5), .second, .val (.int (1 : Int32)), .val (.int (4 : Int32))] [(.int (1 : Int32)), (.ref q1)])) _
            refine XS.lloadN X84.here hx rfl (hb hby dR_123) rfl ?_
            show Steps p.tables e below (T84.setTop (mkF m 124 #[.val (.ref b1), .val (.long x0), .second, .val (.long x5), .second, .val (.int (1 : Int32)), .val (.int (4 : Int32))] [(.long x5), (.int (1 : Int32)), (.ref q1)])) _
            refine st85 _ ?_
            show Steps p.tables e below (T85.setTop (mkF m 125 #[.val (.ref b1), .val (.long x0), .second, .val (.long x5), .second, .val (.int (1 : Int32)), .val (.int (4 : Int32))] [])) _
            refine XS.lloadN X85.here hx rfl (hb hby dR_125) rfl ?_
            show Steps p.tables e below (T85.setTop (mkF m 126 #[.val (.ref b1), .val (.long x0), .second, .val (.long x5), .second, .val (.int (1 : Int32)), .val (.int (4 : Int32))] [(.long x0)])) _
            exact X85.lreturnOut hx Bd.returns (hb hby dR_126) hr
          · exact ⟨rfl, N85, K85, E89, F87, F88, _, _, _, _, _, _, by rw [own_rem_6, if_neg hc67, if_pos hc82, if_pos hc67x, if_neg hc82x], V86⟩
      · obtain ⟨T90, X90, e90, st90⟩ := getF X63 hx hZ hown (host := "") (Or.inl (hw _ (List.mem_of_getElem? (i := 14) rfl))) Via.refl e63 F53 (g := (mkF m 74 #[.val (.ref b1), .val (.long x0), .second, .val (.long x5), .second, .val (.int (1 : Int32)), .val (.int (3 : Int32))] [(.ref b1)])) rfl rfl (hb hby dR_74)
        have hi91 : ¬ (3 : Int32) < 0 ∧ (3 : Int32).toNatClampNeg < (16 : Int32).toNatClampNeg := by decide
        have ha91 : cl61.slots[(3 : Int32).toNatClampNeg]? = some (.long x3) := H61 _ (by rw [S61]; exact hi91.2)
        refine own_go (b := T90.setTop (mkF m 82 #[.val (.ref b1), .val (.long x0), .second, .val (.long x5), .second, .val (.int (1 : Int32)), .val (.int (3 : Int32))] [(.int (lcmpW x3 x5))])) (fun t k => ?_) ?_
        · show Steps p.tables e below (T63.setTop (mkF m 67 #[.val (.ref b1), .val (.long x0), .second, .val (.long x5), .second, .val (.int (1 : Int32)), .val (.int (3 : Int32))] [(.int (lcmpW x4 x3))])) _
          refine XS.ifYes X63.here hx rfl (pc0 := 67) (pc' := 73) rfl (hb hby dR_67) rfl ((if0 _ _).trans (flt (fun q => hc67x ((lw_lt x4 x3).mp q))).2.1) (by decide) (by decide) ?_
          show Steps p.tables e below (T63.setTop (mkF m 73 #[.val (.ref b1), .val (.long x0), .second, .val (.long x5), .second, .val (.int (1 : Int32)), .val (.int (3 : Int32))] [])) _
          refine XS.aloadN X63.here hx rfl (hb hby dR_73) rfl rfl ?_
          show Steps p.tables e below (T63.setTop (mkF m 74 #[.val (.ref b1), .val (.long x0), .second, .val (.long x5), .second, .val (.int (1 : Int32)), .val (.int (3 : Int32))] [(.ref b1)])) _
          refine st90 _ ?_
          show Steps p.tables e below (T90.setTop (mkF m 77 #[.val (.ref b1), .val (.long x0), .second, .val (.long x5), .second, .val (.int (1 : Int32)), .val (.int (3 : Int32))] [(.ref q1)])) _
          refine XS.iload X90.here hx rfl (hb hby dR_77) rfl ?_
          show Steps p.tables e below (T90.setTop (mkF m 79 #[.val (.ref b1), .val (.long x0), .second, .val (.long x5), .second, .val (.int (1 : Int32)), .val (.int (3 : Int32))] [(.int (3 : Int32)), (.ref q1)])) _
          refine X90.laload hx (j := (3 : Int32)) (v := (.long x3)) (by rw [e90]; exact Ar61.1) (State.isArrayOf_alike hZ.alike Ar61.2.1) Ar61.2.2 (own_hin S61 hi91) ha91 (g := (mkF m 79 #[.val (.ref b1), .val (.long x0), .second, .val (.long x5), .second, .val (.int (1 : Int32)), .val (.int (3 : Int32))] [(.int (3 : Int32)), (.ref q1)])) rfl rfl (hb hby dR_79) _ ?_
          show Steps p.tables e below (T90.setTop (mkF m 80 #[.val (.ref b1), .val (.long x0), .second, .val (.long x5), .second, .val (.int (1 : Int32)), .val (.int (3 : Int32))] [(.long x3)])) _
          refine XS.lloadN X90.here hx rfl (hb hby dR_80) rfl ?_
          show Steps p.tables e below (T90.setTop (mkF m 81 #[.val (.ref b1), .val (.long x0), .second, .val (.long x5), .second, .val (.int (1 : Int32)), .val (.int (3 : Int32))] [(.long x5), (.long x3)])) _
          refine XS.lcmp X90.here hx rfl (hb hby dR_81) rfl ?_
          show Steps p.tables e below (T90.setTop (mkF m 82 #[.val (.ref b1), .val (.long x0), .second, .val (.long x5), .second, .val (.int (1 : Int32)), .val (.int (3 : Int32))] [(.int (lcmpW x3 x5))])) _
          exact k
        by_cases hc82x : x3 < x5
        · obtain ⟨T92, X92, e92, st92⟩ := getF X90 hx hZ hown (host := "") (Or.inl (hw _ (List.mem_of_getElem? (i := 14) rfl))) Via.refl e90 F53 (g := (mkF m 89 #[.val (.ref b1), .val (.long x0), .second, .val (.long x5), .second, .val (.int (1 : Int32)), .val (.int (3 : Int32))] [(.ref b1)])) rfl rfl (hb hby dR_89)
          obtain ⟨T93, X93, e93, st93⟩ := getF X92 hx hZ hown (host := "") (Or.inl (hw _ (List.mem_of_getElem? (i := 14) rfl))) Via.refl e92 F53 (g := (mkF m 95 #[.val (.ref b1), .val (.long x0), .second, .val (.long x5), .second, .val (.int (1 : Int32)), .val (.int (3 : Int32))] [(.ref b1), (.int (1 : Int32)), (.ref q1)])) rfl rfl (hb hby dR_95)
          have hi94 : ¬ (3 : Int32) < 0 ∧ (3 : Int32).toNatClampNeg < (16 : Int32).toNatClampNeg := by decide
          have ha94 : cl61.slots[(3 : Int32).toNatClampNeg]? = some (.long x3) := H61 _ (by rw [S61]; exact hi94.2)
          obtain ⟨T95, h95, X95, e95, W95, st95⟩ := stJ X93 hx hZ e93 Ar61 (j := (1 : Int32)) (by rw [S61]; decide) (g := (mkF m 101 #[.val (.ref b1), .val (.long x0), .second, .val (.long x5), .second, .val (.int (1 : Int32)), .val (.int (3 : Int32))] [(.long x3), (.int (1 : Int32)), (.ref q1)])) rfl rfl (hb hby dR_101)
          have N95 := Fr.snoc X95 N51 lo_q1
          obtain ⟨lc95, X95, N95⟩ := own_lc X95 N95
          have V96 : Arv Z h95 q1 k1 .long (16 : Int32) [(.long x1), (.long x3), (.long x2), (.long x3), (.long x4), (.long x5), (.long (0 : Int64)), (.long (0 : Int64)), (.long (0 : Int64)), (.long (0 : Int64)), (.long (0 : Int64)), (.long (0 : Int64)), (.long (0 : Int64)), (.long (0 : Int64)), (.long (0 : Int64)), (.long (0 : Int64))] (.long (0 : Int64)) := Arv.set Ar61 q61 S61 M61 H61 U61 rfl W95 1 rfl (by show 1 < 16; decide)
          have K95 := K51.wr W95 (Or.inl (List.mem_of_getElem? (i := 1) rfl))
          have F97 := F53.other W95 (Or.inl (Nat.ne_of_lt lt_q))
          have F98 := F54.other W95 (Or.inl (Nat.ne_of_lt lt_q))
          have E99 := E55.wr W95
          have Z95 : n0 ≤ h95.size := by rw [W95.size]; exact Z51
          obtain ⟨T100, X100, e100, st100⟩ := getF X95 hx hZ hown (host := "") (Or.inl (hw _ (List.mem_of_getElem? (i := 21) rfl))) Via.refl e95 F98 (g := (mkF m 33 #[.val (.ref b1), .val (.long x0), .second, .val (.long x5), .second, .val (.int (3 : Int32)), .val (.int (7 : Int32))] [(.ref b1), (.int (7 : Int32))])) rfl rfl (hb hby dR_33)
          have hc36_101 : ¬ ((7 : Int32) < (5 : Int32)) := (by decide)
          obtain ⟨T102, X102, e102, st102⟩ := getF X100 hx hZ hown (host := "") (Or.inl (hw _ (List.mem_of_getElem? (i := 14) rfl))) Via.refl e100 F97 (g := (mkF m 118 #[.val (.ref b1), .val (.long x0), .second, .val (.long x5), .second, .val (.int (3 : Int32)), .val (.int (7 : Int32))] [(.ref b1)])) rfl rfl (hb hby dR_118)
          obtain ⟨cl103, Ar103, q103, S103, M103, H103, U103⟩ := id V96
          obtain ⟨T104, h104, X104, e104, W104, st104⟩ := stJ X102 hx hZ e102 Ar103 (j := (3 : Int32)) (by rw [S103]; decide) (g := (mkF m 124 #[.val (.ref b1), .val (.long x0), .second, .val (.long x5), .second, .val (.int (3 : Int32)), .val (.int (7 : Int32))] [(.long x5), (.int (3 : Int32)), (.ref q1)])) rfl rfl (hb hby dR_124)
          have N104 := Fr.snoc X104 N95 lo_q1
          obtain ⟨lc104, X104, N104⟩ := own_lc X104 N104
          have V105 : Arv Z h104 q1 k1 .long (16 : Int32) [(.long x1), (.long x3), (.long x2), (.long x5), (.long x4), (.long x5), (.long (0 : Int64)), (.long (0 : Int64)), (.long (0 : Int64)), (.long (0 : Int64)), (.long (0 : Int64)), (.long (0 : Int64)), (.long (0 : Int64)), (.long (0 : Int64)), (.long (0 : Int64)), (.long (0 : Int64))] (.long (0 : Int64)) := Arv.set Ar103 q103 S103 M103 H103 U103 rfl W104 3 rfl (by show 3 < 16; decide)
          have K104 := K95.wr W104 (Or.inl (List.mem_of_getElem? (i := 1) rfl))
          have F106 := F97.other W104 (Or.inl (Nat.ne_of_lt lt_q))
          have F107 := F98.other W104 (Or.inl (Nat.ne_of_lt lt_q))
          have E108 := E99.wr W104
          have Z104 : n0 ≤ h104.size := by rw [W104.size]; exact Z95
          refine own_end X104 Bd.notSynchronized (v := some (.long x0)) (fun h => by rw [Bd.returns] at h; cases h) (fun fs hr => ?_) e104 ?_ (by decide) (by decide)
          · show Steps p.tables e below (T90.setTop (mkF m 82 #[.val (.ref b1), .val (.long x0), .second, .val (.long x5), .second, .val (.int (1 : Int32)), .val (.int (3 : Int32))] [(.int (lcmpW x3 x5))])) _
            refine XS.ifYes X90.here hx rfl (pc0 := 82) (pc' := 88) rfl (hb hby dR_82) rfl ((if0 _ _).trans (tlt ((lw_lt x3 x5).mpr hc82x)).1) (by decide) (by decide) ?_
            show Steps p.tables e below (T90.setTop (mkF m 88 #[.val (.ref b1), .val (.long x0), .second, .val (.long x5), .second, .val (.int (1 : Int32)), .val (.int (3 : Int32))] [])) _
            refine XS.aloadN X90.here hx rfl (hb hby dR_88) rfl rfl ?_
            show Steps p.tables e below (T90.setTop (mkF m 89 #[.val (.ref b1), .val (.long x0), .second, .val (.long x5), .second, .val (.int (1 : Int32)), .val (.int (3 : Int32))] [(.ref b1)])) _
            refine st92 _ ?_
            show Steps p.tables e below (T92.setTop (mkF m 92 #[.val (.ref b1), .val (.long x0), .second, .val (.long x5), .second, .val (.int (1 : Int32)), .val (.int (3 : Int32))] [(.ref q1)])) _
            refine XS.iload X92.here hx rfl (hb hby dR_92) rfl ?_
            show Steps p.tables e below (T92.setTop (mkF m 94 #[.val (.ref b1), .val (.long x0), .second, .val (.long x5), .second, .val (.int (1 : Int32)), .val (.int (3 : Int32))] [(.int (1 : Int32)), (.ref q1)])) _
            refine XS.aloadN X92.here hx rfl (hb hby dR_94) rfl rfl ?_
            show Steps p.tables e below (T92.setTop (mkF m 95 #[.val (.ref b1), .val (.long x0), .second, .val (.long x5), .second, .val (.int (1 : Int32)), .val (.int (3 : Int32))] [(.ref b1), (.int (1 : Int32)), (.ref q1)])) _
            refine st93 _ ?_
            show Steps p.tables e below (T93.setTop (mkF m 98 #[.val (.ref b1), .val (.long x0), .second, .val (.long x5), .second, .val (.int (1 : Int32)), .val (.int (3 : Int32))] [(.ref q1), (.int (1 : Int32)), (.ref q1)])) _
            refine XS.iload X93.here hx rfl (hb hby dR_98) rfl ?_
            show Steps p.tables e below (T93.setTop (mkF m 100 #[.val (.ref b1), .val (.long x0), .second, .val (.long x5), .second, .val (.int (1 : Int32)), .val (.int (3 : Int32))] [(.int (3 : Int32)), (.ref q1), (.int (1 : Int32)), (.ref q1)])) _
            refine X93.laload hx (j := (3 : Int32)) (v := (.long x3)) (by rw [e93]; exact Ar61.1) (State.isArrayOf_alike hZ.alike Ar61.2.1) Ar61.2.2 (own_hin S61 hi94) ha94 (g := (mkF m 100 #[.val (.ref b1), .val (.long x0), .second, .val (.long x5), .second, .val (.int (1 : Int32)), .val (.int (3 : Int32))] [(.int (3 : Int32)), (.ref q1), (.int (1 : Int32)), (.ref q1)])) rfl rfl (hb hby dR_100) _ ?_
            show Steps p.tables e below (T93.setTop (mkF m 101 #[.val (.ref b1), .val (.long x0), .second, .val (.long x5), .second, .val (.int (1 : Int32)), .val (.int (3 : Int32))] [(.long x3), (.int (1 : Int32)), (.ref q1)])) _
            refine st95 _ ?_
            show Steps p.tables e below (T95.setTop (mkF m 102 #[.val (.ref b1), .val (.long x0), .second, .val (.long x5), .second, .val (.int (1 : Int32)), .val (.int (3 : Int32))] [])) _
            refine XS.iload X95.here hx rfl (hb hby dR_102) rfl ?_
            show Steps p.tables e below (T95.setTop (mkF m 104 #[.val (.ref b1), .val (.long x0), .second, .val (.long x5), .second, .val (.int (1 : Int32)), .val (.int (3 : Int32))] [(.int (3 : Int32))])) _
            refine XS.istore X95.here hx rfl (hb hby dR_104) rfl (l' := #[.val (.ref b1), .val (.long x0), .second, .val (.long x5), .second, .val (.int (3 : Int32)), .val (.int (3 : Int32))]) rfl ?_
            show Steps p.tables e below (T95.setTop (mkF m 106 #[.val (.ref b1), .val (.long x0), .second, .val (.long x5), .second, .val (.int (3 : Int32)), .val (.int (3 : Int32))] [])) _
            refine XS.iconst X95.here hx rfl (hb hby dR_106) ?_
            show Steps p.tables e below (T95.setTop (mkF m 107 #[.val (.ref b1), .val (.long x0), .second, .val (.long x5), .second, .val (.int (3 : Int32)), .val (.int (3 : Int32))] [(.int (2 : Int32))])) _
            refine XS.iload X95.here hx rfl (hb hby dR_107) rfl ?_
            show Steps p.tables e below (T95.setTop (mkF m 109 #[.val (.ref b1), .val (.long x0), .second, .val (.long x5), .second, .val (.int (3 : Int32)), .val (.int (3 : Int32))] [(.int (3 : Int32)), (.int (2 : Int32))])) _
            refine XS.imul X95.here hx rfl (hb hby dR_109) rfl ?_
            show Steps p.tables e below (T95.setTop (mkF m 110 #[.val (.ref b1), .val (.long x0), .second, .val (.long x5), .second, .val (.int (3 : Int32)), .val (.int (3 : Int32))] [(.int (6 : Int32))])) _
            refine XS.iconst X95.here hx rfl (hb hby dR_110) ?_
            show Steps p.tables e below (T95.setTop (mkF m 111 #[.val (.ref b1), .val (.long x0), .second, .val (.long x5), .second, .val (.int (3 : Int32)), .val (.int (3 : Int32))] [(.int (1 : Int32)), (.int (6 : Int32))])) _
            refine XS.iadd X95.here hx rfl (hb hby dR_111) rfl ?_
            show Steps p.tables e below (T95.setTop (mkF m 112 #[.val (.ref b1), .val (.long x0), .second, .val (.long x5), .second, .val (.int (3 : Int32)), .val (.int (3 : Int32))] [(.int (7 : Int32))])) _
            refine XS.istore X95.here hx rfl (hb hby dR_112) rfl (l' := #[.val (.ref b1), .val (.long x0), .second, .val (.long x5), .second, .val (.int (3 : Int32)), .val (.int (7 : Int32))]) rfl ?_
            show Steps p.tables e below (T95.setTop (mkF m 114 #[.val (.ref b1), .val (.long x0), .second, .val (.long x5), .second, .val (.int (3 : Int32)), .val (.int (7 : Int32))] [])) _
            refine XS.goto X95.here hx rfl (pc0 := 114) (pc' := 30) rfl (hb hby dR_114) (by decide) (by decide) ?_
            show Steps p.tables e below (T95.setTop (mkF m 30 #[.val (.ref b1), .val (.long x0), .second, .val (.long x5), .second, .val (.int (3 : Int32)), .val (.int (7 : Int32))] [])) _
            refine XS.iload X95.here hx rfl (hb hby dR_30) rfl ?_
            show Steps p.tables e below (T95.setTop (mkF m 32 #[.val (.ref b1), .val (.long x0), .second, .val (.long x5), .second, .val (.int (3 : Int32)), .val (.int (7 : Int32))] [(.int (7 : Int32))])) _
            refine XS.aloadN X95.here hx rfl (hb hby dR_32) rfl rfl ?_
            show Steps p.tables e below (T95.setTop (mkF m 33 #[.val (.ref b1), .val (.long x0), .second, .val (.long x5), .second, .val (.int (3 : Int32)), .val (.int (7 : Int32))] [(.ref b1), (.int (7 : Int32))])) _
            refine st100 _ ?_
            show Steps p.tables e below (T100.setTop (mkF m 36 #[.val (.ref b1), .val (.long x0), .second, .val (.long x5), .second, .val (.int (3 : Int32)), .val (.int (7 : Int32))] [(.int (5 : Int32)), (.int (7 : Int32))])) _
            refine XS.icmpYes X100.here hx rfl (pc0 := 36) (pc' := 117) rfl (hb hby dR_36) rfl (flt hc36_101).2.1 (by decide) (by decide) ?_
            show Steps p.tables e below (T100.setTop (mkF m 117 #[.val (.ref b1), .val (.long x0), .second, .val (.long x5), .second, .val (.int (3 : Int32)), .val (.int (7 : Int32))] [])) _
            refine XS.aloadN X100.here hx rfl (hb hby dR_117) rfl rfl ?_
            show Steps p.tables e below (T100.setTop (mkF m 118 #[.val (.ref b1), .val (.long x0), .second, .val (.long x5), .second, .val (.int (3 : Int32)), .val (.int (7 : Int32))] [(.ref b1)])) _
            refine st102 _ ?_
            show Steps p.tables e below (T102.setTop (mkF m 121 #[.val (.ref b1), .val (.long x0), .second, .val (.long x5), .second, .val (.int (3 : Int32)), .val (.int (7 : Int32))] [(.ref q1)])) _
            refine XS.iload X102.here hx rfl (hb hby dR_121) rfl ?_
            show Steps p.tables e below (T102.setTop (mkF m 123 #[.val (.ref b1), .val (.long x0), .second, .val (.long x5), .second, .val (.int (3 : Int32)), .val (.int (7 : Int32))] [(.int (3 : Int32)), (.ref q1)])) _
            refine XS.lloadN X102.here hx rfl (hb hby dR_123) rfl ?_
            show Steps p.tables e below (T102.setTop (mkF m 124 #[.val (.ref b1), .val (.long x0), .second, .val (.long x5), .second, .val (.int (3 : Int32)), .val (.int (7 : Int32))] [(.long x5), (.int (3 : Int32)), (.ref q1)])) _
            refine st104 _ ?_
            show Steps p.tables e below (T104.setTop (mkF m 125 #[.val (.ref b1), .val (.long x0), .second, .val (.long x5), .second, .val (.int (3 : Int32)), .val (.int (7 : Int32))] [])) _
            refine XS.lloadN X104.here hx rfl (hb hby dR_125) rfl ?_
            show Steps p.tables e below (T104.setTop (mkF m 126 #[.val (.ref b1), .val (.long x0), .second, .val (.long x5), .second, .val (.int (3 : Int32)), .val (.int (7 : Int32))] [(.long x0)])) _
            exact X104.lreturnOut hx Bd.returns (hb hby dR_126) hr
          · exact ⟨rfl, N104, K104, E108, F106, F107, _, _, _, _, _, _, by rw [own_rem_6, if_neg hc67, if_pos hc82, if_neg hc67x, if_pos hc82x], V105⟩
        · obtain ⟨T109, X109, e109, st109⟩ := getF X90 hx hZ hown (host := "") (Or.inl (hw _ (List.mem_of_getElem? (i := 14) rfl))) Via.refl e90 F53 (g := (mkF m 118 #[.val (.ref b1), .val (.long x0), .second, .val (.long x5), .second, .val (.int (1 : Int32)), .val (.int (3 : Int32))] [(.ref b1)])) rfl rfl (hb hby dR_118)
          obtain ⟨T110, h110, X110, e110, W110, st110⟩ := stJ X109 hx hZ e109 Ar61 (j := (1 : Int32)) (by rw [S61]; decide) (g := (mkF m 124 #[.val (.ref b1), .val (.long x0), .second, .val (.long x5), .second, .val (.int (1 : Int32)), .val (.int (3 : Int32))] [(.long x5), (.int (1 : Int32)), (.ref q1)])) rfl rfl (hb hby dR_124)
          have N110 := Fr.snoc X110 N51 lo_q1
          obtain ⟨lc110, X110, N110⟩ := own_lc X110 N110
          have V111 : Arv Z h110 q1 k1 .long (16 : Int32) [(.long x1), (.long x5), (.long x2), (.long x3), (.long x4), (.long x5), (.long (0 : Int64)), (.long (0 : Int64)), (.long (0 : Int64)), (.long (0 : Int64)), (.long (0 : Int64)), (.long (0 : Int64)), (.long (0 : Int64)), (.long (0 : Int64)), (.long (0 : Int64)), (.long (0 : Int64))] (.long (0 : Int64)) := Arv.set Ar61 q61 S61 M61 H61 U61 rfl W110 1 rfl (by show 1 < 16; decide)
          have K110 := K51.wr W110 (Or.inl (List.mem_of_getElem? (i := 1) rfl))
          have F112 := F53.other W110 (Or.inl (Nat.ne_of_lt lt_q))
          have F113 := F54.other W110 (Or.inl (Nat.ne_of_lt lt_q))
          have E114 := E55.wr W110
          have Z110 : n0 ≤ h110.size := by rw [W110.size]; exact Z51
          refine own_end X110 Bd.notSynchronized (v := some (.long x0)) (fun h => by rw [Bd.returns] at h; cases h) (fun fs hr => ?_) e110 ?_ (by decide) (by decide)
          · show Steps p.tables e below (T90.setTop (mkF m 82 #[.val (.ref b1), .val (.long x0), .second, .val (.long x5), .second, .val (.int (1 : Int32)), .val (.int (3 : Int32))] [(.int (lcmpW x3 x5))])) _
            refine XS.ifNo X90.here hx rfl (hb hby dR_82) rfl ((if0 _ _).trans (flt (fun q => hc82x ((lw_lt x3 x5).mp q))).1) ?_
            show Steps p.tables e below (T90.setTop (mkF m 85 #[.val (.ref b1), .val (.long x0), .second, .val (.long x5), .second, .val (.int (1 : Int32)), .val (.int (3 : Int32))] [])) _
            refine XS.goto X90.here hx rfl (pc0 := 85) (pc' := 117) rfl (hb hby dR_85) (by decide) (by decide) ?_
            show Steps p.tables e below (T90.setTop (mkF m 117 #[.val (.ref b1), .val (.long x0), .second, .val (.long x5), .second, .val (.int (1 : Int32)), .val (.int (3 : Int32))] [])) _
            refine XS.aloadN X90.here hx rfl (hb hby dR_117) rfl rfl ?_
            show Steps p.tables e below (T90.setTop (mkF m 118 #[.val (.ref b1), .val (.long x0), .second, .val (.long x5), .second, .val (.int (1 : Int32)), .val (.int (3 : Int32))] [(.ref b1)])) _
            refine st109 _ ?_
            show Steps p.tables e below (T109.setTop (mkF m 121 #[.val (.ref b1), .val (.long x0), .second, .val (.long x5), .second, .val (.int (1 : Int32)), .val (.int (3 : Int32))] [(.ref q1)])) _
            refine XS.iload X109.here hx rfl (hb hby dR_121) rfl ?_
            show Steps p.tables e below (T109.setTop (mkF m 123 #[.val (.ref b1), .val (.long x0), .second, .val (.long x5), .second, .val (.int (1 : Int32)), .val (.int (3 : Int32))] [(.int (1 : Int32)), (.ref q1)])) _
            refine XS.lloadN X109.here hx rfl (hb hby dR_123) rfl ?_
            show Steps p.tables e below (T109.setTop (mkF m 124 #[.val (.ref b1), .val (.long x0), .second, .val (.long x5), .second, .val (.int (1 : Int32)), .val (.int (3 : Int32))] [(.long x5), (.int (1 : Int32)), (.ref q1)])) _
            refine st110 _ ?_
            show Steps p.tables e below (T110.setTop (mkF m 125 #[.val (.ref b1), .val (.long x0), .second, .val (.long x5), .second, .val (.int (1 : Int32)), .val (.int (3 : Int32))] [])) _
            refine XS.lloadN X110.here hx rfl (hb hby dR_125) rfl ?_
            show Steps p.tables e below (T110.setTop (mkF m 126 #[.val (.ref b1), .val (.long x0), .second, .val (.long x5), .second, .val (.int (1 : Int32)), .val (.int (3 : Int32))] [(.long x0)])) _
            exact X110.lreturnOut hx Bd.returns (hb hby dR_126) hr
          · exact ⟨rfl, N110, K110, E114, F112, F113, _, _, _, _, _, _, by rw [own_rem_6, if_neg hc67, if_pos hc82, if_neg hc67x, if_neg hc82x], V111⟩
    · obtain ⟨T115, X115, e115, st115⟩ := getF X46 hx hZ hown (host := "") (Or.inl (hw _ (List.mem_of_getElem? (i := 14) rfl))) Via.refl e46 F8 (g := (mkF m 118 #[.val (.ref b1), .val (.long x0), .second, .val (.long x5), .second, .val (.int (0 : Int32)), .val (.int (1 : Int32))] [(.ref b1)])) rfl rfl (hb hby dR_118)
      obtain ⟨T116, h116, X116, e116, W116, st116⟩ := stJ X115 hx hZ e115 Ar11 (j := (0 : Int32)) (by rw [S11]; decide) (g := (mkF m 124 #[.val (.ref b1), .val (.long x0), .second, .val (.long x5), .second, .val (.int (0 : Int32)), .val (.int (1 : Int32))] [(.long x5), (.int (0 : Int32)), (.ref q1)])) rfl rfl (hb hby dR_124)
      have N116 := Fr.snoc X116 N6 lo_q1
      obtain ⟨lc116, X116, N116⟩ := own_lc X116 N116
      have V117 : Arv Z h116 q1 k1 .long (16 : Int32) [(.long x5), (.long x1), (.long x2), (.long x3), (.long x4), (.long x5), (.long (0 : Int64)), (.long (0 : Int64)), (.long (0 : Int64)), (.long (0 : Int64)), (.long (0 : Int64)), (.long (0 : Int64)), (.long (0 : Int64)), (.long (0 : Int64)), (.long (0 : Int64)), (.long (0 : Int64))] (.long (0 : Int64)) := Arv.set Ar11 q11 S11 M11 H11 U11 rfl W116 0 rfl (by show 0 < 16; decide)
      have K116 := K6.wr W116 (Or.inl (List.mem_of_getElem? (i := 1) rfl))
      have F118 := F8.other W116 (Or.inl (Nat.ne_of_lt lt_q))
      have F119 := F7.other W116 (Or.inl (Nat.ne_of_lt lt_q))
      have E120 := E9.wr W116
      have Z116 : n0 ≤ h116.size := by rw [W116.size]; exact Z6
      refine own_end X116 Bd.notSynchronized (v := some (.long x0)) (fun h => by rw [Bd.returns] at h; cases h) (fun fs hr => ?_) e116 ?_ (by decide) (by decide)
      · show Steps p.tables e below (T46.setTop (mkF m 82 #[.val (.ref b1), .val (.long x0), .second, .val (.long x5), .second, .val (.int (0 : Int32)), .val (.int (1 : Int32))] [(.int (lcmpW x1 x5))])) _
        refine XS.ifNo X46.here hx rfl (hb hby dR_82) rfl ((if0 _ _).trans (flt (fun q => hc82 ((lw_lt x1 x5).mp q))).1) ?_
        show Steps p.tables e below (T46.setTop (mkF m 85 #[.val (.ref b1), .val (.long x0), .second, .val (.long x5), .second, .val (.int (0 : Int32)), .val (.int (1 : Int32))] [])) _
        refine XS.goto X46.here hx rfl (pc0 := 85) (pc' := 117) rfl (hb hby dR_85) (by decide) (by decide) ?_
        show Steps p.tables e below (T46.setTop (mkF m 117 #[.val (.ref b1), .val (.long x0), .second, .val (.long x5), .second, .val (.int (0 : Int32)), .val (.int (1 : Int32))] [])) _
        refine XS.aloadN X46.here hx rfl (hb hby dR_117) rfl rfl ?_
        show Steps p.tables e below (T46.setTop (mkF m 118 #[.val (.ref b1), .val (.long x0), .second, .val (.long x5), .second, .val (.int (0 : Int32)), .val (.int (1 : Int32))] [(.ref b1)])) _
        refine st115 _ ?_
        show Steps p.tables e below (T115.setTop (mkF m 121 #[.val (.ref b1), .val (.long x0), .second, .val (.long x5), .second, .val (.int (0 : Int32)), .val (.int (1 : Int32))] [(.ref q1)])) _
        refine XS.iload X115.here hx rfl (hb hby dR_121) rfl ?_
        show Steps p.tables e below (T115.setTop (mkF m 123 #[.val (.ref b1), .val (.long x0), .second, .val (.long x5), .second, .val (.int (0 : Int32)), .val (.int (1 : Int32))] [(.int (0 : Int32)), (.ref q1)])) _
        refine XS.lloadN X115.here hx rfl (hb hby dR_123) rfl ?_
        show Steps p.tables e below (T115.setTop (mkF m 124 #[.val (.ref b1), .val (.long x0), .second, .val (.long x5), .second, .val (.int (0 : Int32)), .val (.int (1 : Int32))] [(.long x5), (.int (0 : Int32)), (.ref q1)])) _
        refine st116 _ ?_
        show Steps p.tables e below (T116.setTop (mkF m 125 #[.val (.ref b1), .val (.long x0), .second, .val (.long x5), .second, .val (.int (0 : Int32)), .val (.int (1 : Int32))] [])) _
        refine XS.lloadN X116.here hx rfl (hb hby dR_125) rfl ?_
        show Steps p.tables e below (T116.setTop (mkF m 126 #[.val (.ref b1), .val (.long x0), .second, .val (.long x5), .second, .val (.int (0 : Int32)), .val (.int (1 : Int32))] [(.long x0)])) _
        exact X116.lreturnOut hx Bd.returns (hb hby dR_126) hr
      · exact ⟨rfl, N116, K116, E120, F118, F119, _, _, _, _, _, _, by rw [own_rem_6, if_neg hc67, if_neg hc82], V117⟩
def own_rem_5 (x0 : Int64) (x1 : Int64) (x2 : Int64) (x3 : Int64) (x4 : Int64) (x5 : Int64) : List Int64 :=
  if x2 < x1 then
    if x2 < x4 then
      [x2, x1, x4, x3, x4, x5]
    else
      [x4, x1, x2, x3, x4, x5]
  else
    if x1 < x4 then
      if x3 < x4 then
        [x1, x3, x2, x4, x4, x5]
      else
        [x1, x4, x2, x3, x4, x5]
    else
      [x4, x1, x2, x3, x4, x5]
theorem pn_r5 : plainName "com/example/kdata/kdata/LongHeap" = true := by first | (simp [plainName, overriddenIn]; done) | decide +kernel
theorem ef_r5 (m : MethodId) (x0 : Addr) : entryFrame m #[(.ref x0)] 7 = mkF m 0 #[.val (.ref x0), .unset, .unset, .unset, .unset, .unset, .unset] [] := by first | (simp [entryFrame, mkF, argsToLocals, Value.category]; done) | rfl
def Qr5 (Z : State) (b1 q1 : Addr) (k1 : ClassId) (x0 : Int64) (x1 : Int64) (x2 : Int64) (x3 : Int64) (x4 : Int64) (x5 : Int64) (h0 : Heap) (n0 : Nat) (v : Option Value) (h : Heap) (L : List Loc) : Prop := v = some (.long x0) ∧ Fr n0 L ∧ Keep h0 h [b1, q1] ∧ Exa Z h b1 "com/example/kdata/kdata/LongHeap" ∧ Fld Z h b1 "com/example/kdata/kdata/LongHeap" "data" "[J" (.ref q1) ∧ Fld Z h b1 "com/example/kdata/kdata/LongHeap" "size" "I" (.int (4 : Int32)) ∧ ∃ z0 z1 z2 z3 z4 z5 : Int64, [z0, z1, z2, z3, z4, z5] = own_rem_5 x0 x1 x2 x3 x4 x5 ∧ Arv Z h q1 k1 .long (16 : Int32) [(.long z0), (.long z1), (.long z2), (.long z3), (.long z4), (.long z5), (.long (0 : Int64)), (.long (0 : Int64)), (.long (0 : Int64)), (.long (0 : Int64)), (.long (0 : Int64)), (.long (0 : Int64)), (.long (0 : Int64)), (.long (0 : Int64)), (.long (0 : Int64)), (.long (0 : Int64))] (.long (0 : Int64))
set_option maxRecDepth 65536 in
set_option maxHeartbeats 40000000 in
theorem rmr5 (l : Launch) (Z : State) (a0 : Array Value) (hw : ∀ d ∈ tables_1, d.before a0 Z = true) (ws : List Jvm.Cond)  (b1 q1 : Addr) (k1 : ClassId) (x0 : Int64) (x1 : Int64) (x2 : Int64) (x3 : Int64) (x4 : Int64) (x5 : Int64) (h0 : Heap) (n0 : Nat) (Z0 : n0 ≤ h0.size) (F_d : Fld Z h0 b1 "com/example/kdata/kdata/LongHeap" "data" "[J" (.ref q1)) (F_s : Fld Z h0 b1 "com/example/kdata/kdata/LongHeap" "size" "I" (.int (5 : Int32))) (E_b1 : Exa Z h0 b1 "com/example/kdata/kdata/LongHeap") (lo_b1 : n0 ≤ b1) (lo_q1 : n0 ≤ q1) (lt_q : b1 < q1) (V_q1 : Arv Z h0 q1 k1 .long (16 : Int32) [(.long x0), (.long x1), (.long x2), (.long x3), (.long x4), (.long x5), (.long (0 : Int64)), (.long (0 : Int64)), (.long (0 : Int64)), (.long (0 : Int64)), (.long (0 : Int64)), (.long (0 : Int64)), (.long (0 : Int64)), (.long (0 : Int64)), (.long (0 : Int64)), (.long (0 : Int64))] (.long (0 : Int64))) :
    MetFree l (⟨"com/example/kdata/kdata/LongHeap", "removeLeast", "()J"⟩ : MethodName) (head1 (Jvm.Cond.code (⟨"com/example/kdata/kdata/LongHeap", "removeLeast", "()J"⟩ : MethodName) prog_81_method_4_code 7 (some .long) :: ws) ({ frames := 0, cells := 0, slots := 0, locals := 0 } : Room)) (fun a U => a = #[(.ref b1)] ∧ Z.Warmed39 U.vm ∧ U.heap = h0) (fun _ _ _ _ _ => True) (fun _ U o U' => ∃ v L, o = .returned v ∧ Qr5 Z b1 q1 k1 x0 x1 x2 x3 x4 x5 h0 n0 v U'.heap L ∧ FrameEnd U o U' L ({ frames := 0, cells := 0, slots := 0, locals := 0 } : Room).cells ({ frames := 0, cells := 0, slots := 0, locals := 0 } : Room).slots) := by
  refine MetFree.of_bodySF (plainFor_of_name pn_r5) hisR ?_
  intro p e s m args below meth c s₁ Bd hml0 hP hK
  obtain ⟨rfl, hZ, hh⟩ := hP
  have hx := Bd.exec
  have hby := Bd.bytes
  have hml : c.maxLocals = 7 := hml0
  have hown : s.vm.findClass "com/example/kdata/kdata/LongHeap" = some m.cls := findClass_of_methodNamed Bd.named
  have hnm := (name_of_methodNamed Bd.named Bd.method).1
  have X0 : Stand p l e ({ frames := 0, cells := 0, slots := 0, locals := 0 } : Room) s m #[(.ref b1)] below meth c s₁ [] 0 0 := Stand.of_body Bd
  have e0 : s₁.heap = h0 := by rw [← hh, Bd.state]; rfl
  have N0 := Fr.nil n0
  show own_Go p e below s (Qr5 Z b1 q1 k1 x0 x1 x2 x3 x4 x5 h0 n0) ({ frames := 0, cells := 0, slots := 0, locals := 0 } : Room).cells ({ frames := 0, cells := 0, slots := 0, locals := 0 } : Room).slots (s₁.setTop (entryFrame m #[(.ref b1)] 7))
  refine own_go (b := s₁.setTop (mkF m 0 #[.val (.ref b1), .unset, .unset, .unset, .unset, .unset, .unset] [])) (fun t k => castTop (ef_r5 m b1) k) ?_
  have K0 := Keep.refl h0 [b1, q1]
  obtain ⟨T1, X1, e1, st1⟩ := getF X0 hx hZ hown (host := "") (Or.inl (hw _ (List.mem_of_getElem? (i := 14) rfl))) Via.refl e0 F_d (g := (mkF m 1 #[.val (.ref b1), .unset, .unset, .unset, .unset, .unset, .unset] [(.ref b1)])) rfl rfl (hb hby dR_1)
  obtain ⟨cl2, Ar2, q2, S2, M2, H2, U2⟩ := id V_q1
  have hi3 : ¬ (0 : Int32) < 0 ∧ (0 : Int32).toNatClampNeg < (16 : Int32).toNatClampNeg := by decide
  have ha3 : cl2.slots[(0 : Int32).toNatClampNeg]? = some (.long x0) := H2 _ (by rw [S2]; exact hi3.2)
  obtain ⟨T4, X4, e4, st4⟩ := getF X1 hx hZ hown (host := "") (Or.inl (hw _ (List.mem_of_getElem? (i := 14) rfl))) Via.refl e1 F_d (g := (mkF m 8 #[.val (.ref b1), .val (.long x0), .second, .unset, .unset, .unset, .unset] [(.ref b1)])) rfl rfl (hb hby dR_8)
  obtain ⟨T5, X5, e5, st5⟩ := getF X4 hx hZ hown (host := "") (Or.inl (hw _ (List.mem_of_getElem? (i := 21) rfl))) Via.refl e4 F_s (g := (mkF m 13 #[.val (.ref b1), .val (.long x0), .second, .unset, .unset, .unset, .unset] [(.ref b1), (.ref b1), (.ref q1)])) rfl rfl (hb hby dR_13)
  obtain ⟨T6, h6, X6, e6, W6, st6⟩ := putF X5 hx hZ hown (host := "") (Or.inl (hw _ (List.mem_of_getElem? (i := 21) rfl))) Via.refl e5 F_s E_b1 (Or.inl (hw _ (List.mem_of_getElem? (i := 22) rfl))) (hw _ (List.mem_of_getElem? (i := 6) rfl)) (ty := .int) (by decide) rfl rfl (g := (mkF m 19 #[.val (.ref b1), .val (.long x0), .second, .unset, .unset, .unset, .unset] [(.int (4 : Int32)), (.ref b1), (.int (4 : Int32)), (.ref q1)])) rfl rfl (hb hby dR_19)
  have N6 := Fr.snoc X6 N0 lo_b1
  obtain ⟨lc6, X6, N6⟩ := own_lc X6 N6
  have K6 := K0.wr W6 (Or.inl (List.mem_of_getElem? (i := 0) rfl))
  have F7 : Fld Z h6 b1 "com/example/kdata/kdata/LongHeap" "size" "I" (.int (4 : Int32)) := F_s.same W6
  have F8 := F_d.other W6 (Or.inr (slot_ne (Or.inl (hw _ (List.mem_of_getElem? (i := 15) rfl))) (Or.inl (hw _ (List.mem_of_getElem? (i := 22) rfl))) (by decide) (t := (.array .long)) (t' := .int) (by decide) (by decide)))
  have E9 := E_b1.wr W6
  have V10 := V_q1.other W6 (Nat.ne_of_gt lt_q)
  have Z6 : n0 ≤ h6.size := by rw [W6.size]; exact Z0
  obtain ⟨cl11, Ar11, q11, S11, M11, H11, U11⟩ := id V10
  have hi12 : ¬ (4 : Int32) < 0 ∧ (4 : Int32).toNatClampNeg < (16 : Int32).toNatClampNeg := by decide
  have ha12 : cl11.slots[(4 : Int32).toNatClampNeg]? = some (.long x4) := H11 _ (by rw [S11]; exact hi12.2)
  obtain ⟨T13, X13, e13, st13⟩ := getF X6 hx hZ hown (host := "") (Or.inl (hw _ (List.mem_of_getElem? (i := 21) rfl))) Via.refl e6 F7 (g := (mkF m 33 #[.val (.ref b1), .val (.long x0), .second, .val (.long x4), .second, .val (.int (0 : Int32)), .val (.int (1 : Int32))] [(.ref b1), (.int (1 : Int32))])) rfl rfl (hb hby dR_33)
  have hc36_14 : (1 : Int32) < (4 : Int32) := (by decide)
  obtain ⟨T15, X15, e15, st15⟩ := getF X13 hx hZ hown (host := "") (Or.inl (hw _ (List.mem_of_getElem? (i := 21) rfl))) Via.refl e13 F7 (g := (mkF m 44 #[.val (.ref b1), .val (.long x0), .second, .val (.long x4), .second, .val (.int (0 : Int32)), .val (.int (1 : Int32))] [(.ref b1), (.int (2 : Int32))])) rfl rfl (hb hby dR_44)
  have hc47_16 : (2 : Int32) < (4 : Int32) := (by decide)
  obtain ⟨T17, X17, e17, st17⟩ := getF X15 hx hZ hown (host := "") (Or.inl (hw _ (List.mem_of_getElem? (i := 14) rfl))) Via.refl e15 F8 (g := (mkF m 51 #[.val (.ref b1), .val (.long x0), .second, .val (.long x4), .second, .val (.int (0 : Int32)), .val (.int (1 : Int32))] [(.ref b1)])) rfl rfl (hb hby dR_51)
  have hi18 : ¬ (2 : Int32) < 0 ∧ (2 : Int32).toNatClampNeg < (16 : Int32).toNatClampNeg := by decide
  have ha18 : cl11.slots[(2 : Int32).toNatClampNeg]? = some (.long x2) := H11 _ (by rw [S11]; exact hi18.2)
  obtain ⟨T19, X19, e19, st19⟩ := getF X17 hx hZ hown (host := "") (Or.inl (hw _ (List.mem_of_getElem? (i := 14) rfl))) Via.refl e17 F8 (g := (mkF m 60 #[.val (.ref b1), .val (.long x0), .second, .val (.long x4), .second, .val (.int (0 : Int32)), .val (.int (1 : Int32))] [(.ref b1), (.long x2)])) rfl rfl (hb hby dR_60)
  have hi20 : ¬ (1 : Int32) < 0 ∧ (1 : Int32).toNatClampNeg < (16 : Int32).toNatClampNeg := by decide
  have ha20 : cl11.slots[(1 : Int32).toNatClampNeg]? = some (.long x1) := H11 _ (by rw [S11]; exact hi20.2)
  refine own_go (b := T19.setTop (mkF m 67 #[.val (.ref b1), .val (.long x0), .second, .val (.long x4), .second, .val (.int (0 : Int32)), .val (.int (1 : Int32))] [(.int (lcmpW x2 x1))])) (fun t k => ?_) ?_
  · show Steps p.tables e below (s₁.setTop (mkF m 0 #[.val (.ref b1), .unset, .unset, .unset, .unset, .unset, .unset] [])) _
    refine XS.aloadN X0.here hx rfl (hb hby dR_0) rfl rfl ?_
    show Steps p.tables e below (s₁.setTop (mkF m 1 #[.val (.ref b1), .unset, .unset, .unset, .unset, .unset, .unset] [(.ref b1)])) _
    refine st1 _ ?_
    show Steps p.tables e below (T1.setTop (mkF m 4 #[.val (.ref b1), .unset, .unset, .unset, .unset, .unset, .unset] [(.ref q1)])) _
    refine XS.iconst X1.here hx rfl (hb hby dR_4) ?_
    show Steps p.tables e below (T1.setTop (mkF m 5 #[.val (.ref b1), .unset, .unset, .unset, .unset, .unset, .unset] [(.int (0 : Int32)), (.ref q1)])) _
    refine X1.laload hx (j := (0 : Int32)) (v := (.long x0)) (by rw [e1]; exact Ar2.1) (State.isArrayOf_alike hZ.alike Ar2.2.1) Ar2.2.2 (own_hin S2 hi3) ha3 (g := (mkF m 5 #[.val (.ref b1), .unset, .unset, .unset, .unset, .unset, .unset] [(.int (0 : Int32)), (.ref q1)])) rfl rfl (hb hby dR_5) _ ?_
    show Steps p.tables e below (T1.setTop (mkF m 6 #[.val (.ref b1), .unset, .unset, .unset, .unset, .unset, .unset] [(.long x0)])) _
    refine XS.lstoreN X1.here hx rfl (hb hby dR_6) rfl (l' := #[.val (.ref b1), .val (.long x0), .second, .unset, .unset, .unset, .unset]) rfl ?_
    show Steps p.tables e below (T1.setTop (mkF m 7 #[.val (.ref b1), .val (.long x0), .second, .unset, .unset, .unset, .unset] [])) _
    refine XS.aloadN X1.here hx rfl (hb hby dR_7) rfl rfl ?_
    show Steps p.tables e below (T1.setTop (mkF m 8 #[.val (.ref b1), .val (.long x0), .second, .unset, .unset, .unset, .unset] [(.ref b1)])) _
    refine st4 _ ?_
    show Steps p.tables e below (T4.setTop (mkF m 11 #[.val (.ref b1), .val (.long x0), .second, .unset, .unset, .unset, .unset] [(.ref q1)])) _
    refine XS.aloadN X4.here hx rfl (hb hby dR_11) rfl rfl ?_
    show Steps p.tables e below (T4.setTop (mkF m 12 #[.val (.ref b1), .val (.long x0), .second, .unset, .unset, .unset, .unset] [(.ref b1), (.ref q1)])) _
    refine XS.dup X4.here hx rfl (hb hby dR_12) rfl rfl ?_
    show Steps p.tables e below (T4.setTop (mkF m 13 #[.val (.ref b1), .val (.long x0), .second, .unset, .unset, .unset, .unset] [(.ref b1), (.ref b1), (.ref q1)])) _
    refine st5 _ ?_
    show Steps p.tables e below (T5.setTop (mkF m 16 #[.val (.ref b1), .val (.long x0), .second, .unset, .unset, .unset, .unset] [(.int (5 : Int32)), (.ref b1), (.ref q1)])) _
    refine XS.iconst X5.here hx rfl (hb hby dR_16) ?_
    show Steps p.tables e below (T5.setTop (mkF m 17 #[.val (.ref b1), .val (.long x0), .second, .unset, .unset, .unset, .unset] [(.int (1 : Int32)), (.int (5 : Int32)), (.ref b1), (.ref q1)])) _
    refine XS.isub X5.here hx rfl (hb hby dR_17) rfl ?_
    show Steps p.tables e below (T5.setTop (mkF m 18 #[.val (.ref b1), .val (.long x0), .second, .unset, .unset, .unset, .unset] [(.int (4 : Int32)), (.ref b1), (.ref q1)])) _
    refine XS.dupX1 X5.here hx rfl (hb hby dR_18) rfl rfl rfl ?_
    show Steps p.tables e below (T5.setTop (mkF m 19 #[.val (.ref b1), .val (.long x0), .second, .unset, .unset, .unset, .unset] [(.int (4 : Int32)), (.ref b1), (.int (4 : Int32)), (.ref q1)])) _
    refine st6 _ ?_
    show Steps p.tables e below (T6.setTop (mkF m 22 #[.val (.ref b1), .val (.long x0), .second, .unset, .unset, .unset, .unset] [(.int (4 : Int32)), (.ref q1)])) _
    refine X6.laload hx (j := (4 : Int32)) (v := (.long x4)) (by rw [e6]; exact Ar11.1) (State.isArrayOf_alike hZ.alike Ar11.2.1) Ar11.2.2 (own_hin S11 hi12) ha12 (g := (mkF m 22 #[.val (.ref b1), .val (.long x0), .second, .unset, .unset, .unset, .unset] [(.int (4 : Int32)), (.ref q1)])) rfl rfl (hb hby dR_22) _ ?_
    show Steps p.tables e below (T6.setTop (mkF m 23 #[.val (.ref b1), .val (.long x0), .second, .unset, .unset, .unset, .unset] [(.long x4)])) _
    refine XS.lstoreN X6.here hx rfl (hb hby dR_23) rfl (l' := #[.val (.ref b1), .val (.long x0), .second, .val (.long x4), .second, .unset, .unset]) rfl ?_
    show Steps p.tables e below (T6.setTop (mkF m 24 #[.val (.ref b1), .val (.long x0), .second, .val (.long x4), .second, .unset, .unset] [])) _
    refine XS.iconst X6.here hx rfl (hb hby dR_24) ?_
    show Steps p.tables e below (T6.setTop (mkF m 25 #[.val (.ref b1), .val (.long x0), .second, .val (.long x4), .second, .unset, .unset] [(.int (0 : Int32))])) _
    refine XS.istore X6.here hx rfl (hb hby dR_25) rfl (l' := #[.val (.ref b1), .val (.long x0), .second, .val (.long x4), .second, .val (.int (0 : Int32)), .unset]) rfl ?_
    show Steps p.tables e below (T6.setTop (mkF m 27 #[.val (.ref b1), .val (.long x0), .second, .val (.long x4), .second, .val (.int (0 : Int32)), .unset] [])) _
    refine XS.iconst X6.here hx rfl (hb hby dR_27) ?_
    show Steps p.tables e below (T6.setTop (mkF m 28 #[.val (.ref b1), .val (.long x0), .second, .val (.long x4), .second, .val (.int (0 : Int32)), .unset] [(.int (1 : Int32))])) _
    refine XS.istore X6.here hx rfl (hb hby dR_28) rfl (l' := #[.val (.ref b1), .val (.long x0), .second, .val (.long x4), .second, .val (.int (0 : Int32)), .val (.int (1 : Int32))]) rfl ?_
    show Steps p.tables e below (T6.setTop (mkF m 30 #[.val (.ref b1), .val (.long x0), .second, .val (.long x4), .second, .val (.int (0 : Int32)), .val (.int (1 : Int32))] [])) _
    refine XS.iload X6.here hx rfl (hb hby dR_30) rfl ?_
    show Steps p.tables e below (T6.setTop (mkF m 32 #[.val (.ref b1), .val (.long x0), .second, .val (.long x4), .second, .val (.int (0 : Int32)), .val (.int (1 : Int32))] [(.int (1 : Int32))])) _
    refine XS.aloadN X6.here hx rfl (hb hby dR_32) rfl rfl ?_
    show Steps p.tables e below (T6.setTop (mkF m 33 #[.val (.ref b1), .val (.long x0), .second, .val (.long x4), .second, .val (.int (0 : Int32)), .val (.int (1 : Int32))] [(.ref b1), (.int (1 : Int32))])) _
    refine st13 _ ?_
    show Steps p.tables e below (T13.setTop (mkF m 36 #[.val (.ref b1), .val (.long x0), .second, .val (.long x4), .second, .val (.int (0 : Int32)), .val (.int (1 : Int32))] [(.int (4 : Int32)), (.int (1 : Int32))])) _
    refine XS.icmpNo X13.here hx rfl (hb hby dR_36) rfl (tlt hc36_14).2.1 ?_
    show Steps p.tables e below (T13.setTop (mkF m 39 #[.val (.ref b1), .val (.long x0), .second, .val (.long x4), .second, .val (.int (0 : Int32)), .val (.int (1 : Int32))] [])) _
    refine XS.iload X13.here hx rfl (hb hby dR_39) rfl ?_
    show Steps p.tables e below (T13.setTop (mkF m 41 #[.val (.ref b1), .val (.long x0), .second, .val (.long x4), .second, .val (.int (0 : Int32)), .val (.int (1 : Int32))] [(.int (1 : Int32))])) _
    refine XS.iconst X13.here hx rfl (hb hby dR_41) ?_
    show Steps p.tables e below (T13.setTop (mkF m 42 #[.val (.ref b1), .val (.long x0), .second, .val (.long x4), .second, .val (.int (0 : Int32)), .val (.int (1 : Int32))] [(.int (1 : Int32)), (.int (1 : Int32))])) _
    refine XS.iadd X13.here hx rfl (hb hby dR_42) rfl ?_
    show Steps p.tables e below (T13.setTop (mkF m 43 #[.val (.ref b1), .val (.long x0), .second, .val (.long x4), .second, .val (.int (0 : Int32)), .val (.int (1 : Int32))] [(.int (2 : Int32))])) _
    refine XS.aloadN X13.here hx rfl (hb hby dR_43) rfl rfl ?_
    show Steps p.tables e below (T13.setTop (mkF m 44 #[.val (.ref b1), .val (.long x0), .second, .val (.long x4), .second, .val (.int (0 : Int32)), .val (.int (1 : Int32))] [(.ref b1), (.int (2 : Int32))])) _
    refine st15 _ ?_
    show Steps p.tables e below (T15.setTop (mkF m 47 #[.val (.ref b1), .val (.long x0), .second, .val (.long x4), .second, .val (.int (0 : Int32)), .val (.int (1 : Int32))] [(.int (4 : Int32)), (.int (2 : Int32))])) _
    refine XS.icmpNo X15.here hx rfl (hb hby dR_47) rfl (tlt hc47_16).2.1 ?_
    show Steps p.tables e below (T15.setTop (mkF m 50 #[.val (.ref b1), .val (.long x0), .second, .val (.long x4), .second, .val (.int (0 : Int32)), .val (.int (1 : Int32))] [])) _
    refine XS.aloadN X15.here hx rfl (hb hby dR_50) rfl rfl ?_
    show Steps p.tables e below (T15.setTop (mkF m 51 #[.val (.ref b1), .val (.long x0), .second, .val (.long x4), .second, .val (.int (0 : Int32)), .val (.int (1 : Int32))] [(.ref b1)])) _
    refine st17 _ ?_
    show Steps p.tables e below (T17.setTop (mkF m 54 #[.val (.ref b1), .val (.long x0), .second, .val (.long x4), .second, .val (.int (0 : Int32)), .val (.int (1 : Int32))] [(.ref q1)])) _
    refine XS.iload X17.here hx rfl (hb hby dR_54) rfl ?_
    show Steps p.tables e below (T17.setTop (mkF m 56 #[.val (.ref b1), .val (.long x0), .second, .val (.long x4), .second, .val (.int (0 : Int32)), .val (.int (1 : Int32))] [(.int (1 : Int32)), (.ref q1)])) _
    refine XS.iconst X17.here hx rfl (hb hby dR_56) ?_
    show Steps p.tables e below (T17.setTop (mkF m 57 #[.val (.ref b1), .val (.long x0), .second, .val (.long x4), .second, .val (.int (0 : Int32)), .val (.int (1 : Int32))] [(.int (1 : Int32)), (.int (1 : Int32)), (.ref q1)])) _
    refine XS.iadd X17.here hx rfl (hb hby dR_57) rfl ?_
    show Steps p.tables e below (T17.setTop (mkF m 58 #[.val (.ref b1), .val (.long x0), .second, .val (.long x4), .second, .val (.int (0 : Int32)), .val (.int (1 : Int32))] [(.int (2 : Int32)), (.ref q1)])) _
    refine X17.laload hx (j := (2 : Int32)) (v := (.long x2)) (by rw [e17]; exact Ar11.1) (State.isArrayOf_alike hZ.alike Ar11.2.1) Ar11.2.2 (own_hin S11 hi18) ha18 (g := (mkF m 58 #[.val (.ref b1), .val (.long x0), .second, .val (.long x4), .second, .val (.int (0 : Int32)), .val (.int (1 : Int32))] [(.int (2 : Int32)), (.ref q1)])) rfl rfl (hb hby dR_58) _ ?_
    show Steps p.tables e below (T17.setTop (mkF m 59 #[.val (.ref b1), .val (.long x0), .second, .val (.long x4), .second, .val (.int (0 : Int32)), .val (.int (1 : Int32))] [(.long x2)])) _
    refine XS.aloadN X17.here hx rfl (hb hby dR_59) rfl rfl ?_
    show Steps p.tables e below (T17.setTop (mkF m 60 #[.val (.ref b1), .val (.long x0), .second, .val (.long x4), .second, .val (.int (0 : Int32)), .val (.int (1 : Int32))] [(.ref b1), (.long x2)])) _
    refine st19 _ ?_
    show Steps p.tables e below (T19.setTop (mkF m 63 #[.val (.ref b1), .val (.long x0), .second, .val (.long x4), .second, .val (.int (0 : Int32)), .val (.int (1 : Int32))] [(.ref q1), (.long x2)])) _
    refine XS.iload X19.here hx rfl (hb hby dR_63) rfl ?_
    show Steps p.tables e below (T19.setTop (mkF m 65 #[.val (.ref b1), .val (.long x0), .second, .val (.long x4), .second, .val (.int (0 : Int32)), .val (.int (1 : Int32))] [(.int (1 : Int32)), (.ref q1), (.long x2)])) _
    refine X19.laload hx (j := (1 : Int32)) (v := (.long x1)) (by rw [e19]; exact Ar11.1) (State.isArrayOf_alike hZ.alike Ar11.2.1) Ar11.2.2 (own_hin S11 hi20) ha20 (g := (mkF m 65 #[.val (.ref b1), .val (.long x0), .second, .val (.long x4), .second, .val (.int (0 : Int32)), .val (.int (1 : Int32))] [(.int (1 : Int32)), (.ref q1), (.long x2)])) rfl rfl (hb hby dR_65) _ ?_
    show Steps p.tables e below (T19.setTop (mkF m 66 #[.val (.ref b1), .val (.long x0), .second, .val (.long x4), .second, .val (.int (0 : Int32)), .val (.int (1 : Int32))] [(.long x1), (.long x2)])) _
    refine XS.lcmp X19.here hx rfl (hb hby dR_66) rfl ?_
    show Steps p.tables e below (T19.setTop (mkF m 67 #[.val (.ref b1), .val (.long x0), .second, .val (.long x4), .second, .val (.int (0 : Int32)), .val (.int (1 : Int32))] [(.int (lcmpW x2 x1))])) _
    exact k
  by_cases hc67 : x2 < x1
  · obtain ⟨T21, X21, e21, st21⟩ := getF X19 hx hZ hown (host := "") (Or.inl (hw _ (List.mem_of_getElem? (i := 14) rfl))) Via.refl e19 F8 (g := (mkF m 74 #[.val (.ref b1), .val (.long x0), .second, .val (.long x4), .second, .val (.int (0 : Int32)), .val (.int (2 : Int32))] [(.ref b1)])) rfl rfl (hb hby dR_74)
    have hi22 : ¬ (2 : Int32) < 0 ∧ (2 : Int32).toNatClampNeg < (16 : Int32).toNatClampNeg := by decide
    have ha22 : cl11.slots[(2 : Int32).toNatClampNeg]? = some (.long x2) := H11 _ (by rw [S11]; exact hi22.2)
    refine own_go (b := T21.setTop (mkF m 82 #[.val (.ref b1), .val (.long x0), .second, .val (.long x4), .second, .val (.int (0 : Int32)), .val (.int (2 : Int32))] [(.int (lcmpW x2 x4))])) (fun t k => ?_) ?_
    · show Steps p.tables e below (T19.setTop (mkF m 67 #[.val (.ref b1), .val (.long x0), .second, .val (.long x4), .second, .val (.int (0 : Int32)), .val (.int (1 : Int32))] [(.int (lcmpW x2 x1))])) _
      refine XS.ifNo X19.here hx rfl (hb hby dR_67) rfl ((if0 _ _).trans (tlt ((lw_lt x2 x1).mpr hc67)).2.1) ?_
      show Steps p.tables e below (T19.setTop (mkF m 70 #[.val (.ref b1), .val (.long x0), .second, .val (.long x4), .second, .val (.int (0 : Int32)), .val (.int (1 : Int32))] [])) _
      refine XS.iinc X19.here hx rfl (hb hby dR_70) rfl (l' := #[.val (.ref b1), .val (.long x0), .second, .val (.long x4), .second, .val (.int (0 : Int32)), .val (.int (2 : Int32))]) rfl ?_
      show Steps p.tables e below (T19.setTop (mkF m 73 #[.val (.ref b1), .val (.long x0), .second, .val (.long x4), .second, .val (.int (0 : Int32)), .val (.int (2 : Int32))] [])) _
      refine XS.aloadN X19.here hx rfl (hb hby dR_73) rfl rfl ?_
      show Steps p.tables e below (T19.setTop (mkF m 74 #[.val (.ref b1), .val (.long x0), .second, .val (.long x4), .second, .val (.int (0 : Int32)), .val (.int (2 : Int32))] [(.ref b1)])) _
      refine st21 _ ?_
      show Steps p.tables e below (T21.setTop (mkF m 77 #[.val (.ref b1), .val (.long x0), .second, .val (.long x4), .second, .val (.int (0 : Int32)), .val (.int (2 : Int32))] [(.ref q1)])) _
      refine XS.iload X21.here hx rfl (hb hby dR_77) rfl ?_
      show Steps p.tables e below (T21.setTop (mkF m 79 #[.val (.ref b1), .val (.long x0), .second, .val (.long x4), .second, .val (.int (0 : Int32)), .val (.int (2 : Int32))] [(.int (2 : Int32)), (.ref q1)])) _
      refine X21.laload hx (j := (2 : Int32)) (v := (.long x2)) (by rw [e21]; exact Ar11.1) (State.isArrayOf_alike hZ.alike Ar11.2.1) Ar11.2.2 (own_hin S11 hi22) ha22 (g := (mkF m 79 #[.val (.ref b1), .val (.long x0), .second, .val (.long x4), .second, .val (.int (0 : Int32)), .val (.int (2 : Int32))] [(.int (2 : Int32)), (.ref q1)])) rfl rfl (hb hby dR_79) _ ?_
      show Steps p.tables e below (T21.setTop (mkF m 80 #[.val (.ref b1), .val (.long x0), .second, .val (.long x4), .second, .val (.int (0 : Int32)), .val (.int (2 : Int32))] [(.long x2)])) _
      refine XS.lloadN X21.here hx rfl (hb hby dR_80) rfl ?_
      show Steps p.tables e below (T21.setTop (mkF m 81 #[.val (.ref b1), .val (.long x0), .second, .val (.long x4), .second, .val (.int (0 : Int32)), .val (.int (2 : Int32))] [(.long x4), (.long x2)])) _
      refine XS.lcmp X21.here hx rfl (hb hby dR_81) rfl ?_
      show Steps p.tables e below (T21.setTop (mkF m 82 #[.val (.ref b1), .val (.long x0), .second, .val (.long x4), .second, .val (.int (0 : Int32)), .val (.int (2 : Int32))] [(.int (lcmpW x2 x4))])) _
      exact k
    by_cases hc82 : x2 < x4
    · obtain ⟨T23, X23, e23, st23⟩ := getF X21 hx hZ hown (host := "") (Or.inl (hw _ (List.mem_of_getElem? (i := 14) rfl))) Via.refl e21 F8 (g := (mkF m 89 #[.val (.ref b1), .val (.long x0), .second, .val (.long x4), .second, .val (.int (0 : Int32)), .val (.int (2 : Int32))] [(.ref b1)])) rfl rfl (hb hby dR_89)
      obtain ⟨T24, X24, e24, st24⟩ := getF X23 hx hZ hown (host := "") (Or.inl (hw _ (List.mem_of_getElem? (i := 14) rfl))) Via.refl e23 F8 (g := (mkF m 95 #[.val (.ref b1), .val (.long x0), .second, .val (.long x4), .second, .val (.int (0 : Int32)), .val (.int (2 : Int32))] [(.ref b1), (.int (0 : Int32)), (.ref q1)])) rfl rfl (hb hby dR_95)
      have hi25 : ¬ (2 : Int32) < 0 ∧ (2 : Int32).toNatClampNeg < (16 : Int32).toNatClampNeg := by decide
      have ha25 : cl11.slots[(2 : Int32).toNatClampNeg]? = some (.long x2) := H11 _ (by rw [S11]; exact hi25.2)
      obtain ⟨T26, h26, X26, e26, W26, st26⟩ := stJ X24 hx hZ e24 Ar11 (j := (0 : Int32)) (by rw [S11]; decide) (g := (mkF m 101 #[.val (.ref b1), .val (.long x0), .second, .val (.long x4), .second, .val (.int (0 : Int32)), .val (.int (2 : Int32))] [(.long x2), (.int (0 : Int32)), (.ref q1)])) rfl rfl (hb hby dR_101)
      have N26 := Fr.snoc X26 N6 lo_q1
      obtain ⟨lc26, X26, N26⟩ := own_lc X26 N26
      have V27 : Arv Z h26 q1 k1 .long (16 : Int32) [(.long x2), (.long x1), (.long x2), (.long x3), (.long x4), (.long x5), (.long (0 : Int64)), (.long (0 : Int64)), (.long (0 : Int64)), (.long (0 : Int64)), (.long (0 : Int64)), (.long (0 : Int64)), (.long (0 : Int64)), (.long (0 : Int64)), (.long (0 : Int64)), (.long (0 : Int64))] (.long (0 : Int64)) := Arv.set Ar11 q11 S11 M11 H11 U11 rfl W26 0 rfl (by show 0 < 16; decide)
      have K26 := K6.wr W26 (Or.inl (List.mem_of_getElem? (i := 1) rfl))
      have F28 := F8.other W26 (Or.inl (Nat.ne_of_lt lt_q))
      have F29 := F7.other W26 (Or.inl (Nat.ne_of_lt lt_q))
      have E30 := E9.wr W26
      have Z26 : n0 ≤ h26.size := by rw [W26.size]; exact Z6
      obtain ⟨T31, X31, e31, st31⟩ := getF X26 hx hZ hown (host := "") (Or.inl (hw _ (List.mem_of_getElem? (i := 21) rfl))) Via.refl e26 F29 (g := (mkF m 33 #[.val (.ref b1), .val (.long x0), .second, .val (.long x4), .second, .val (.int (2 : Int32)), .val (.int (5 : Int32))] [(.ref b1), (.int (5 : Int32))])) rfl rfl (hb hby dR_33)
      have hc36_32 : ¬ ((5 : Int32) < (4 : Int32)) := (by decide)
      obtain ⟨T33, X33, e33, st33⟩ := getF X31 hx hZ hown (host := "") (Or.inl (hw _ (List.mem_of_getElem? (i := 14) rfl))) Via.refl e31 F28 (g := (mkF m 118 #[.val (.ref b1), .val (.long x0), .second, .val (.long x4), .second, .val (.int (2 : Int32)), .val (.int (5 : Int32))] [(.ref b1)])) rfl rfl (hb hby dR_118)
      obtain ⟨cl34, Ar34, q34, S34, M34, H34, U34⟩ := id V27
      obtain ⟨T35, h35, X35, e35, W35, st35⟩ := stJ X33 hx hZ e33 Ar34 (j := (2 : Int32)) (by rw [S34]; decide) (g := (mkF m 124 #[.val (.ref b1), .val (.long x0), .second, .val (.long x4), .second, .val (.int (2 : Int32)), .val (.int (5 : Int32))] [(.long x4), (.int (2 : Int32)), (.ref q1)])) rfl rfl (hb hby dR_124)
      have N35 := Fr.snoc X35 N26 lo_q1
      obtain ⟨lc35, X35, N35⟩ := own_lc X35 N35
      have V36 : Arv Z h35 q1 k1 .long (16 : Int32) [(.long x2), (.long x1), (.long x4), (.long x3), (.long x4), (.long x5), (.long (0 : Int64)), (.long (0 : Int64)), (.long (0 : Int64)), (.long (0 : Int64)), (.long (0 : Int64)), (.long (0 : Int64)), (.long (0 : Int64)), (.long (0 : Int64)), (.long (0 : Int64)), (.long (0 : Int64))] (.long (0 : Int64)) := Arv.set Ar34 q34 S34 M34 H34 U34 rfl W35 2 rfl (by show 2 < 16; decide)
      have K35 := K26.wr W35 (Or.inl (List.mem_of_getElem? (i := 1) rfl))
      have F37 := F28.other W35 (Or.inl (Nat.ne_of_lt lt_q))
      have F38 := F29.other W35 (Or.inl (Nat.ne_of_lt lt_q))
      have E39 := E30.wr W35
      have Z35 : n0 ≤ h35.size := by rw [W35.size]; exact Z26
      refine own_end X35 Bd.notSynchronized (v := some (.long x0)) (fun h => by rw [Bd.returns] at h; cases h) (fun fs hr => ?_) e35 ?_ (by decide) (by decide)
      · show Steps p.tables e below (T21.setTop (mkF m 82 #[.val (.ref b1), .val (.long x0), .second, .val (.long x4), .second, .val (.int (0 : Int32)), .val (.int (2 : Int32))] [(.int (lcmpW x2 x4))])) _
        refine XS.ifYes X21.here hx rfl (pc0 := 82) (pc' := 88) rfl (hb hby dR_82) rfl ((if0 _ _).trans (tlt ((lw_lt x2 x4).mpr hc82)).1) (by decide) (by decide) ?_
        show Steps p.tables e below (T21.setTop (mkF m 88 #[.val (.ref b1), .val (.long x0), .second, .val (.long x4), .second, .val (.int (0 : Int32)), .val (.int (2 : Int32))] [])) _
        refine XS.aloadN X21.here hx rfl (hb hby dR_88) rfl rfl ?_
        show Steps p.tables e below (T21.setTop (mkF m 89 #[.val (.ref b1), .val (.long x0), .second, .val (.long x4), .second, .val (.int (0 : Int32)), .val (.int (2 : Int32))] [(.ref b1)])) _
        refine st23 _ ?_
        show Steps p.tables e below (T23.setTop (mkF m 92 #[.val (.ref b1), .val (.long x0), .second, .val (.long x4), .second, .val (.int (0 : Int32)), .val (.int (2 : Int32))] [(.ref q1)])) _
        refine XS.iload X23.here hx rfl (hb hby dR_92) rfl ?_
        show Steps p.tables e below (T23.setTop (mkF m 94 #[.val (.ref b1), .val (.long x0), .second, .val (.long x4), .second, .val (.int (0 : Int32)), .val (.int (2 : Int32))] [(.int (0 : Int32)), (.ref q1)])) _
        refine XS.aloadN X23.here hx rfl (hb hby dR_94) rfl rfl ?_
        show Steps p.tables e below (T23.setTop (mkF m 95 #[.val (.ref b1), .val (.long x0), .second, .val (.long x4), .second, .val (.int (0 : Int32)), .val (.int (2 : Int32))] [(.ref b1), (.int (0 : Int32)), (.ref q1)])) _
        refine st24 _ ?_
        show Steps p.tables e below (T24.setTop (mkF m 98 #[.val (.ref b1), .val (.long x0), .second, .val (.long x4), .second, .val (.int (0 : Int32)), .val (.int (2 : Int32))] [(.ref q1), (.int (0 : Int32)), (.ref q1)])) _
        refine XS.iload X24.here hx rfl (hb hby dR_98) rfl ?_
        show Steps p.tables e below (T24.setTop (mkF m 100 #[.val (.ref b1), .val (.long x0), .second, .val (.long x4), .second, .val (.int (0 : Int32)), .val (.int (2 : Int32))] [(.int (2 : Int32)), (.ref q1), (.int (0 : Int32)), (.ref q1)])) _
        refine X24.laload hx (j := (2 : Int32)) (v := (.long x2)) (by rw [e24]; exact Ar11.1) (State.isArrayOf_alike hZ.alike Ar11.2.1) Ar11.2.2 (own_hin S11 hi25) ha25 (g := (mkF m 100 #[.val (.ref b1), .val (.long x0), .second, .val (.long x4), .second, .val (.int (0 : Int32)), .val (.int (2 : Int32))] [(.int (2 : Int32)), (.ref q1), (.int (0 : Int32)), (.ref q1)])) rfl rfl (hb hby dR_100) _ ?_
        show Steps p.tables e below (T24.setTop (mkF m 101 #[.val (.ref b1), .val (.long x0), .second, .val (.long x4), .second, .val (.int (0 : Int32)), .val (.int (2 : Int32))] [(.long x2), (.int (0 : Int32)), (.ref q1)])) _
        refine st26 _ ?_
        show Steps p.tables e below (T26.setTop (mkF m 102 #[.val (.ref b1), .val (.long x0), .second, .val (.long x4), .second, .val (.int (0 : Int32)), .val (.int (2 : Int32))] [])) _
        refine XS.iload X26.here hx rfl (hb hby dR_102) rfl ?_
        show Steps p.tables e below (T26.setTop (mkF m 104 #[.val (.ref b1), .val (.long x0), .second, .val (.long x4), .second, .val (.int (0 : Int32)), .val (.int (2 : Int32))] [(.int (2 : Int32))])) _
        refine XS.istore X26.here hx rfl (hb hby dR_104) rfl (l' := #[.val (.ref b1), .val (.long x0), .second, .val (.long x4), .second, .val (.int (2 : Int32)), .val (.int (2 : Int32))]) rfl ?_
        show Steps p.tables e below (T26.setTop (mkF m 106 #[.val (.ref b1), .val (.long x0), .second, .val (.long x4), .second, .val (.int (2 : Int32)), .val (.int (2 : Int32))] [])) _
        refine XS.iconst X26.here hx rfl (hb hby dR_106) ?_
        show Steps p.tables e below (T26.setTop (mkF m 107 #[.val (.ref b1), .val (.long x0), .second, .val (.long x4), .second, .val (.int (2 : Int32)), .val (.int (2 : Int32))] [(.int (2 : Int32))])) _
        refine XS.iload X26.here hx rfl (hb hby dR_107) rfl ?_
        show Steps p.tables e below (T26.setTop (mkF m 109 #[.val (.ref b1), .val (.long x0), .second, .val (.long x4), .second, .val (.int (2 : Int32)), .val (.int (2 : Int32))] [(.int (2 : Int32)), (.int (2 : Int32))])) _
        refine XS.imul X26.here hx rfl (hb hby dR_109) rfl ?_
        show Steps p.tables e below (T26.setTop (mkF m 110 #[.val (.ref b1), .val (.long x0), .second, .val (.long x4), .second, .val (.int (2 : Int32)), .val (.int (2 : Int32))] [(.int (4 : Int32))])) _
        refine XS.iconst X26.here hx rfl (hb hby dR_110) ?_
        show Steps p.tables e below (T26.setTop (mkF m 111 #[.val (.ref b1), .val (.long x0), .second, .val (.long x4), .second, .val (.int (2 : Int32)), .val (.int (2 : Int32))] [(.int (1 : Int32)), (.int (4 : Int32))])) _
        refine XS.iadd X26.here hx rfl (hb hby dR_111) rfl ?_
        show Steps p.tables e below (T26.setTop (mkF m 112 #[.val (.ref b1), .val (.long x0), .second, .val (.long x4), .second, .val (.int (2 : Int32)), .val (.int (2 : Int32))] [(.int (5 : Int32))])) _
        refine XS.istore X26.here hx rfl (hb hby dR_112) rfl (l' := #[.val (.ref b1), .val (.long x0), .second, .val (.long x4), .second, .val (.int (2 : Int32)), .val (.int (5 : Int32))]) rfl ?_
        show Steps p.tables e below (T26.setTop (mkF m 114 #[.val (.ref b1), .val (.long x0), .second, .val (.long x4), .second, .val (.int (2 : Int32)), .val (.int (5 : Int32))] [])) _
        refine XS.goto X26.here hx rfl (pc0 := 114) (pc' := 30) rfl (hb hby dR_114) (by decide) (by decide) ?_
        show Steps p.tables e below (T26.setTop (mkF m 30 #[.val (.ref b1), .val (.long x0), .second, .val (.long x4), .second, .val (.int (2 : Int32)), .val (.int (5 : Int32))] [])) _
        refine XS.iload X26.here hx rfl (hb hby dR_30) rfl ?_
        show Steps p.tables e below (T26.setTop (mkF m 32 #[.val (.ref b1), .val (.long x0), .second, .val (.long x4), .second, .val (.int (2 : Int32)), .val (.int (5 : Int32))] [(.int (5 : Int32))])) _
        refine XS.aloadN X26.here hx rfl (hb hby dR_32) rfl rfl ?_
        show Steps p.tables e below (T26.setTop (mkF m 33 #[.val (.ref b1), .val (.long x0), .second, .val (.long x4), .second, .val (.int (2 : Int32)), .val (.int (5 : Int32))] [(.ref b1), (.int (5 : Int32))])) _
        refine st31 _ ?_
        show Steps p.tables e below (T31.setTop (mkF m 36 #[.val (.ref b1), .val (.long x0), .second, .val (.long x4), .second, .val (.int (2 : Int32)), .val (.int (5 : Int32))] [(.int (4 : Int32)), (.int (5 : Int32))])) _
        refine XS.icmpYes X31.here hx rfl (pc0 := 36) (pc' := 117) rfl (hb hby dR_36) rfl (flt hc36_32).2.1 (by decide) (by decide) ?_
        show Steps p.tables e below (T31.setTop (mkF m 117 #[.val (.ref b1), .val (.long x0), .second, .val (.long x4), .second, .val (.int (2 : Int32)), .val (.int (5 : Int32))] [])) _
        refine XS.aloadN X31.here hx rfl (hb hby dR_117) rfl rfl ?_
        show Steps p.tables e below (T31.setTop (mkF m 118 #[.val (.ref b1), .val (.long x0), .second, .val (.long x4), .second, .val (.int (2 : Int32)), .val (.int (5 : Int32))] [(.ref b1)])) _
        refine st33 _ ?_
        show Steps p.tables e below (T33.setTop (mkF m 121 #[.val (.ref b1), .val (.long x0), .second, .val (.long x4), .second, .val (.int (2 : Int32)), .val (.int (5 : Int32))] [(.ref q1)])) _
        refine XS.iload X33.here hx rfl (hb hby dR_121) rfl ?_
        show Steps p.tables e below (T33.setTop (mkF m 123 #[.val (.ref b1), .val (.long x0), .second, .val (.long x4), .second, .val (.int (2 : Int32)), .val (.int (5 : Int32))] [(.int (2 : Int32)), (.ref q1)])) _
        refine XS.lloadN X33.here hx rfl (hb hby dR_123) rfl ?_
        show Steps p.tables e below (T33.setTop (mkF m 124 #[.val (.ref b1), .val (.long x0), .second, .val (.long x4), .second, .val (.int (2 : Int32)), .val (.int (5 : Int32))] [(.long x4), (.int (2 : Int32)), (.ref q1)])) _
        refine st35 _ ?_
        show Steps p.tables e below (T35.setTop (mkF m 125 #[.val (.ref b1), .val (.long x0), .second, .val (.long x4), .second, .val (.int (2 : Int32)), .val (.int (5 : Int32))] [])) _
        refine XS.lloadN X35.here hx rfl (hb hby dR_125) rfl ?_
        show Steps p.tables e below (T35.setTop (mkF m 126 #[.val (.ref b1), .val (.long x0), .second, .val (.long x4), .second, .val (.int (2 : Int32)), .val (.int (5 : Int32))] [(.long x0)])) _
        exact X35.lreturnOut hx Bd.returns (hb hby dR_126) hr
      · exact ⟨rfl, N35, K35, E39, F37, F38, _, _, _, _, _, _, by rw [own_rem_5, if_pos hc67, if_pos hc82], V36⟩
    · obtain ⟨T40, X40, e40, st40⟩ := getF X21 hx hZ hown (host := "") (Or.inl (hw _ (List.mem_of_getElem? (i := 14) rfl))) Via.refl e21 F8 (g := (mkF m 118 #[.val (.ref b1), .val (.long x0), .second, .val (.long x4), .second, .val (.int (0 : Int32)), .val (.int (2 : Int32))] [(.ref b1)])) rfl rfl (hb hby dR_118)
      obtain ⟨T41, h41, X41, e41, W41, st41⟩ := stJ X40 hx hZ e40 Ar11 (j := (0 : Int32)) (by rw [S11]; decide) (g := (mkF m 124 #[.val (.ref b1), .val (.long x0), .second, .val (.long x4), .second, .val (.int (0 : Int32)), .val (.int (2 : Int32))] [(.long x4), (.int (0 : Int32)), (.ref q1)])) rfl rfl (hb hby dR_124)
      have N41 := Fr.snoc X41 N6 lo_q1
      obtain ⟨lc41, X41, N41⟩ := own_lc X41 N41
      have V42 : Arv Z h41 q1 k1 .long (16 : Int32) [(.long x4), (.long x1), (.long x2), (.long x3), (.long x4), (.long x5), (.long (0 : Int64)), (.long (0 : Int64)), (.long (0 : Int64)), (.long (0 : Int64)), (.long (0 : Int64)), (.long (0 : Int64)), (.long (0 : Int64)), (.long (0 : Int64)), (.long (0 : Int64)), (.long (0 : Int64))] (.long (0 : Int64)) := Arv.set Ar11 q11 S11 M11 H11 U11 rfl W41 0 rfl (by show 0 < 16; decide)
      have K41 := K6.wr W41 (Or.inl (List.mem_of_getElem? (i := 1) rfl))
      have F43 := F8.other W41 (Or.inl (Nat.ne_of_lt lt_q))
      have F44 := F7.other W41 (Or.inl (Nat.ne_of_lt lt_q))
      have E45 := E9.wr W41
      have Z41 : n0 ≤ h41.size := by rw [W41.size]; exact Z6
      refine own_end X41 Bd.notSynchronized (v := some (.long x0)) (fun h => by rw [Bd.returns] at h; cases h) (fun fs hr => ?_) e41 ?_ (by decide) (by decide)
      · show Steps p.tables e below (T21.setTop (mkF m 82 #[.val (.ref b1), .val (.long x0), .second, .val (.long x4), .second, .val (.int (0 : Int32)), .val (.int (2 : Int32))] [(.int (lcmpW x2 x4))])) _
        refine XS.ifNo X21.here hx rfl (hb hby dR_82) rfl ((if0 _ _).trans (flt (fun q => hc82 ((lw_lt x2 x4).mp q))).1) ?_
        show Steps p.tables e below (T21.setTop (mkF m 85 #[.val (.ref b1), .val (.long x0), .second, .val (.long x4), .second, .val (.int (0 : Int32)), .val (.int (2 : Int32))] [])) _
        refine XS.goto X21.here hx rfl (pc0 := 85) (pc' := 117) rfl (hb hby dR_85) (by decide) (by decide) ?_
        show Steps p.tables e below (T21.setTop (mkF m 117 #[.val (.ref b1), .val (.long x0), .second, .val (.long x4), .second, .val (.int (0 : Int32)), .val (.int (2 : Int32))] [])) _
        refine XS.aloadN X21.here hx rfl (hb hby dR_117) rfl rfl ?_
        show Steps p.tables e below (T21.setTop (mkF m 118 #[.val (.ref b1), .val (.long x0), .second, .val (.long x4), .second, .val (.int (0 : Int32)), .val (.int (2 : Int32))] [(.ref b1)])) _
        refine st40 _ ?_
        show Steps p.tables e below (T40.setTop (mkF m 121 #[.val (.ref b1), .val (.long x0), .second, .val (.long x4), .second, .val (.int (0 : Int32)), .val (.int (2 : Int32))] [(.ref q1)])) _
        refine XS.iload X40.here hx rfl (hb hby dR_121) rfl ?_
        show Steps p.tables e below (T40.setTop (mkF m 123 #[.val (.ref b1), .val (.long x0), .second, .val (.long x4), .second, .val (.int (0 : Int32)), .val (.int (2 : Int32))] [(.int (0 : Int32)), (.ref q1)])) _
        refine XS.lloadN X40.here hx rfl (hb hby dR_123) rfl ?_
        show Steps p.tables e below (T40.setTop (mkF m 124 #[.val (.ref b1), .val (.long x0), .second, .val (.long x4), .second, .val (.int (0 : Int32)), .val (.int (2 : Int32))] [(.long x4), (.int (0 : Int32)), (.ref q1)])) _
        refine st41 _ ?_
        show Steps p.tables e below (T41.setTop (mkF m 125 #[.val (.ref b1), .val (.long x0), .second, .val (.long x4), .second, .val (.int (0 : Int32)), .val (.int (2 : Int32))] [])) _
        refine XS.lloadN X41.here hx rfl (hb hby dR_125) rfl ?_
        show Steps p.tables e below (T41.setTop (mkF m 126 #[.val (.ref b1), .val (.long x0), .second, .val (.long x4), .second, .val (.int (0 : Int32)), .val (.int (2 : Int32))] [(.long x0)])) _
        exact X41.lreturnOut hx Bd.returns (hb hby dR_126) hr
      · exact ⟨rfl, N41, K41, E45, F43, F44, _, _, _, _, _, _, by rw [own_rem_5, if_pos hc67, if_neg hc82], V42⟩
  · obtain ⟨T46, X46, e46, st46⟩ := getF X19 hx hZ hown (host := "") (Or.inl (hw _ (List.mem_of_getElem? (i := 14) rfl))) Via.refl e19 F8 (g := (mkF m 74 #[.val (.ref b1), .val (.long x0), .second, .val (.long x4), .second, .val (.int (0 : Int32)), .val (.int (1 : Int32))] [(.ref b1)])) rfl rfl (hb hby dR_74)
    have hi47 : ¬ (1 : Int32) < 0 ∧ (1 : Int32).toNatClampNeg < (16 : Int32).toNatClampNeg := by decide
    have ha47 : cl11.slots[(1 : Int32).toNatClampNeg]? = some (.long x1) := H11 _ (by rw [S11]; exact hi47.2)
    refine own_go (b := T46.setTop (mkF m 82 #[.val (.ref b1), .val (.long x0), .second, .val (.long x4), .second, .val (.int (0 : Int32)), .val (.int (1 : Int32))] [(.int (lcmpW x1 x4))])) (fun t k => ?_) ?_
    · show Steps p.tables e below (T19.setTop (mkF m 67 #[.val (.ref b1), .val (.long x0), .second, .val (.long x4), .second, .val (.int (0 : Int32)), .val (.int (1 : Int32))] [(.int (lcmpW x2 x1))])) _
      refine XS.ifYes X19.here hx rfl (pc0 := 67) (pc' := 73) rfl (hb hby dR_67) rfl ((if0 _ _).trans (flt (fun q => hc67 ((lw_lt x2 x1).mp q))).2.1) (by decide) (by decide) ?_
      show Steps p.tables e below (T19.setTop (mkF m 73 #[.val (.ref b1), .val (.long x0), .second, .val (.long x4), .second, .val (.int (0 : Int32)), .val (.int (1 : Int32))] [])) _
      refine XS.aloadN X19.here hx rfl (hb hby dR_73) rfl rfl ?_
      show Steps p.tables e below (T19.setTop (mkF m 74 #[.val (.ref b1), .val (.long x0), .second, .val (.long x4), .second, .val (.int (0 : Int32)), .val (.int (1 : Int32))] [(.ref b1)])) _
      refine st46 _ ?_
      show Steps p.tables e below (T46.setTop (mkF m 77 #[.val (.ref b1), .val (.long x0), .second, .val (.long x4), .second, .val (.int (0 : Int32)), .val (.int (1 : Int32))] [(.ref q1)])) _
      refine XS.iload X46.here hx rfl (hb hby dR_77) rfl ?_
      show Steps p.tables e below (T46.setTop (mkF m 79 #[.val (.ref b1), .val (.long x0), .second, .val (.long x4), .second, .val (.int (0 : Int32)), .val (.int (1 : Int32))] [(.int (1 : Int32)), (.ref q1)])) _
      refine X46.laload hx (j := (1 : Int32)) (v := (.long x1)) (by rw [e46]; exact Ar11.1) (State.isArrayOf_alike hZ.alike Ar11.2.1) Ar11.2.2 (own_hin S11 hi47) ha47 (g := (mkF m 79 #[.val (.ref b1), .val (.long x0), .second, .val (.long x4), .second, .val (.int (0 : Int32)), .val (.int (1 : Int32))] [(.int (1 : Int32)), (.ref q1)])) rfl rfl (hb hby dR_79) _ ?_
      show Steps p.tables e below (T46.setTop (mkF m 80 #[.val (.ref b1), .val (.long x0), .second, .val (.long x4), .second, .val (.int (0 : Int32)), .val (.int (1 : Int32))] [(.long x1)])) _
      refine XS.lloadN X46.here hx rfl (hb hby dR_80) rfl ?_
      show Steps p.tables e below (T46.setTop (mkF m 81 #[.val (.ref b1), .val (.long x0), .second, .val (.long x4), .second, .val (.int (0 : Int32)), .val (.int (1 : Int32))] [(.long x4), (.long x1)])) _
      refine XS.lcmp X46.here hx rfl (hb hby dR_81) rfl ?_
      show Steps p.tables e below (T46.setTop (mkF m 82 #[.val (.ref b1), .val (.long x0), .second, .val (.long x4), .second, .val (.int (0 : Int32)), .val (.int (1 : Int32))] [(.int (lcmpW x1 x4))])) _
      exact k
    by_cases hc82 : x1 < x4
    · obtain ⟨T48, X48, e48, st48⟩ := getF X46 hx hZ hown (host := "") (Or.inl (hw _ (List.mem_of_getElem? (i := 14) rfl))) Via.refl e46 F8 (g := (mkF m 89 #[.val (.ref b1), .val (.long x0), .second, .val (.long x4), .second, .val (.int (0 : Int32)), .val (.int (1 : Int32))] [(.ref b1)])) rfl rfl (hb hby dR_89)
      obtain ⟨T49, X49, e49, st49⟩ := getF X48 hx hZ hown (host := "") (Or.inl (hw _ (List.mem_of_getElem? (i := 14) rfl))) Via.refl e48 F8 (g := (mkF m 95 #[.val (.ref b1), .val (.long x0), .second, .val (.long x4), .second, .val (.int (0 : Int32)), .val (.int (1 : Int32))] [(.ref b1), (.int (0 : Int32)), (.ref q1)])) rfl rfl (hb hby dR_95)
      have hi50 : ¬ (1 : Int32) < 0 ∧ (1 : Int32).toNatClampNeg < (16 : Int32).toNatClampNeg := by decide
      have ha50 : cl11.slots[(1 : Int32).toNatClampNeg]? = some (.long x1) := H11 _ (by rw [S11]; exact hi50.2)
      obtain ⟨T51, h51, X51, e51, W51, st51⟩ := stJ X49 hx hZ e49 Ar11 (j := (0 : Int32)) (by rw [S11]; decide) (g := (mkF m 101 #[.val (.ref b1), .val (.long x0), .second, .val (.long x4), .second, .val (.int (0 : Int32)), .val (.int (1 : Int32))] [(.long x1), (.int (0 : Int32)), (.ref q1)])) rfl rfl (hb hby dR_101)
      have N51 := Fr.snoc X51 N6 lo_q1
      obtain ⟨lc51, X51, N51⟩ := own_lc X51 N51
      have V52 : Arv Z h51 q1 k1 .long (16 : Int32) [(.long x1), (.long x1), (.long x2), (.long x3), (.long x4), (.long x5), (.long (0 : Int64)), (.long (0 : Int64)), (.long (0 : Int64)), (.long (0 : Int64)), (.long (0 : Int64)), (.long (0 : Int64)), (.long (0 : Int64)), (.long (0 : Int64)), (.long (0 : Int64)), (.long (0 : Int64))] (.long (0 : Int64)) := Arv.set Ar11 q11 S11 M11 H11 U11 rfl W51 0 rfl (by show 0 < 16; decide)
      have K51 := K6.wr W51 (Or.inl (List.mem_of_getElem? (i := 1) rfl))
      have F53 := F8.other W51 (Or.inl (Nat.ne_of_lt lt_q))
      have F54 := F7.other W51 (Or.inl (Nat.ne_of_lt lt_q))
      have E55 := E9.wr W51
      have Z51 : n0 ≤ h51.size := by rw [W51.size]; exact Z6
      obtain ⟨T56, X56, e56, st56⟩ := getF X51 hx hZ hown (host := "") (Or.inl (hw _ (List.mem_of_getElem? (i := 21) rfl))) Via.refl e51 F54 (g := (mkF m 33 #[.val (.ref b1), .val (.long x0), .second, .val (.long x4), .second, .val (.int (1 : Int32)), .val (.int (3 : Int32))] [(.ref b1), (.int (3 : Int32))])) rfl rfl (hb hby dR_33)
      have hc36_57 : (3 : Int32) < (4 : Int32) := (by decide)
      obtain ⟨T58, X58, e58, st58⟩ := getF X56 hx hZ hown (host := "") (Or.inl (hw _ (List.mem_of_getElem? (i := 21) rfl))) Via.refl e56 F54 (g := (mkF m 44 #[.val (.ref b1), .val (.long x0), .second, .val (.long x4), .second, .val (.int (1 : Int32)), .val (.int (3 : Int32))] [(.ref b1), (.int (4 : Int32))])) rfl rfl (hb hby dR_44)
      have hc47_59 : ¬ ((4 : Int32) < (4 : Int32)) := (by decide)
      obtain ⟨T60, X60, e60, st60⟩ := getF X58 hx hZ hown (host := "") (Or.inl (hw _ (List.mem_of_getElem? (i := 14) rfl))) Via.refl e58 F53 (g := (mkF m 74 #[.val (.ref b1), .val (.long x0), .second, .val (.long x4), .second, .val (.int (1 : Int32)), .val (.int (3 : Int32))] [(.ref b1)])) rfl rfl (hb hby dR_74)
      obtain ⟨cl61, Ar61, q61, S61, M61, H61, U61⟩ := id V52
      have hi62 : ¬ (3 : Int32) < 0 ∧ (3 : Int32).toNatClampNeg < (16 : Int32).toNatClampNeg := by decide
      have ha62 : cl61.slots[(3 : Int32).toNatClampNeg]? = some (.long x3) := H61 _ (by rw [S61]; exact hi62.2)
      refine own_go (b := T60.setTop (mkF m 82 #[.val (.ref b1), .val (.long x0), .second, .val (.long x4), .second, .val (.int (1 : Int32)), .val (.int (3 : Int32))] [(.int (lcmpW x3 x4))])) (fun t k => ?_) ?_
      · show Steps p.tables e below (T46.setTop (mkF m 82 #[.val (.ref b1), .val (.long x0), .second, .val (.long x4), .second, .val (.int (0 : Int32)), .val (.int (1 : Int32))] [(.int (lcmpW x1 x4))])) _
        refine XS.ifYes X46.here hx rfl (pc0 := 82) (pc' := 88) rfl (hb hby dR_82) rfl ((if0 _ _).trans (tlt ((lw_lt x1 x4).mpr hc82)).1) (by decide) (by decide) ?_
        show Steps p.tables e below (T46.setTop (mkF m 88 #[.val (.ref b1), .val (.long x0), .second, .val (.long x4), .second, .val (.int (0 : Int32)), .val (.int (1 : Int32))] [])) _
        refine XS.aloadN X46.here hx rfl (hb hby dR_88) rfl rfl ?_
        show Steps p.tables e below (T46.setTop (mkF m 89 #[.val (.ref b1), .val (.long x0), .second, .val (.long x4), .second, .val (.int (0 : Int32)), .val (.int (1 : Int32))] [(.ref b1)])) _
        refine st48 _ ?_
        show Steps p.tables e below (T48.setTop (mkF m 92 #[.val (.ref b1), .val (.long x0), .second, .val (.long x4), .second, .val (.int (0 : Int32)), .val (.int (1 : Int32))] [(.ref q1)])) _
        refine XS.iload X48.here hx rfl (hb hby dR_92) rfl ?_
        show Steps p.tables e below (T48.setTop (mkF m 94 #[.val (.ref b1), .val (.long x0), .second, .val (.long x4), .second, .val (.int (0 : Int32)), .val (.int (1 : Int32))] [(.int (0 : Int32)), (.ref q1)])) _
        refine XS.aloadN X48.here hx rfl (hb hby dR_94) rfl rfl ?_
        show Steps p.tables e below (T48.setTop (mkF m 95 #[.val (.ref b1), .val (.long x0), .second, .val (.long x4), .second, .val (.int (0 : Int32)), .val (.int (1 : Int32))] [(.ref b1), (.int (0 : Int32)), (.ref q1)])) _
        refine st49 _ ?_
        show Steps p.tables e below (T49.setTop (mkF m 98 #[.val (.ref b1), .val (.long x0), .second, .val (.long x4), .second, .val (.int (0 : Int32)), .val (.int (1 : Int32))] [(.ref q1), (.int (0 : Int32)), (.ref q1)])) _
        refine XS.iload X49.here hx rfl (hb hby dR_98) rfl ?_
        show Steps p.tables e below (T49.setTop (mkF m 100 #[.val (.ref b1), .val (.long x0), .second, .val (.long x4), .second, .val (.int (0 : Int32)), .val (.int (1 : Int32))] [(.int (1 : Int32)), (.ref q1), (.int (0 : Int32)), (.ref q1)])) _
        refine X49.laload hx (j := (1 : Int32)) (v := (.long x1)) (by rw [e49]; exact Ar11.1) (State.isArrayOf_alike hZ.alike Ar11.2.1) Ar11.2.2 (own_hin S11 hi50) ha50 (g := (mkF m 100 #[.val (.ref b1), .val (.long x0), .second, .val (.long x4), .second, .val (.int (0 : Int32)), .val (.int (1 : Int32))] [(.int (1 : Int32)), (.ref q1), (.int (0 : Int32)), (.ref q1)])) rfl rfl (hb hby dR_100) _ ?_
        show Steps p.tables e below (T49.setTop (mkF m 101 #[.val (.ref b1), .val (.long x0), .second, .val (.long x4), .second, .val (.int (0 : Int32)), .val (.int (1 : Int32))] [(.long x1), (.int (0 : Int32)), (.ref q1)])) _
        refine st51 _ ?_
        show Steps p.tables e below (T51.setTop (mkF m 102 #[.val (.ref b1), .val (.long x0), .second, .val (.long x4), .second, .val (.int (0 : Int32)), .val (.int (1 : Int32))] [])) _
        refine XS.iload X51.here hx rfl (hb hby dR_102) rfl ?_
        show Steps p.tables e below (T51.setTop (mkF m 104 #[.val (.ref b1), .val (.long x0), .second, .val (.long x4), .second, .val (.int (0 : Int32)), .val (.int (1 : Int32))] [(.int (1 : Int32))])) _
        refine XS.istore X51.here hx rfl (hb hby dR_104) rfl (l' := #[.val (.ref b1), .val (.long x0), .second, .val (.long x4), .second, .val (.int (1 : Int32)), .val (.int (1 : Int32))]) rfl ?_
        show Steps p.tables e below (T51.setTop (mkF m 106 #[.val (.ref b1), .val (.long x0), .second, .val (.long x4), .second, .val (.int (1 : Int32)), .val (.int (1 : Int32))] [])) _
        refine XS.iconst X51.here hx rfl (hb hby dR_106) ?_
        show Steps p.tables e below (T51.setTop (mkF m 107 #[.val (.ref b1), .val (.long x0), .second, .val (.long x4), .second, .val (.int (1 : Int32)), .val (.int (1 : Int32))] [(.int (2 : Int32))])) _
        refine XS.iload X51.here hx rfl (hb hby dR_107) rfl ?_
        show Steps p.tables e below (T51.setTop (mkF m 109 #[.val (.ref b1), .val (.long x0), .second, .val (.long x4), .second, .val (.int (1 : Int32)), .val (.int (1 : Int32))] [(.int (1 : Int32)), (.int (2 : Int32))])) _
        refine XS.imul X51.here hx rfl (hb hby dR_109) rfl ?_
        show Steps p.tables e below (T51.setTop (mkF m 110 #[.val (.ref b1), .val (.long x0), .second, .val (.long x4), .second, .val (.int (1 : Int32)), .val (.int (1 : Int32))] [(.int (2 : Int32))])) _
        refine XS.iconst X51.here hx rfl (hb hby dR_110) ?_
        show Steps p.tables e below (T51.setTop (mkF m 111 #[.val (.ref b1), .val (.long x0), .second, .val (.long x4), .second, .val (.int (1 : Int32)), .val (.int (1 : Int32))] [(.int (1 : Int32)), (.int (2 : Int32))])) _
        refine XS.iadd X51.here hx rfl (hb hby dR_111) rfl ?_
        show Steps p.tables e below (T51.setTop (mkF m 112 #[.val (.ref b1), .val (.long x0), .second, .val (.long x4), .second, .val (.int (1 : Int32)), .val (.int (1 : Int32))] [(.int (3 : Int32))])) _
        refine XS.istore X51.here hx rfl (hb hby dR_112) rfl (l' := #[.val (.ref b1), .val (.long x0), .second, .val (.long x4), .second, .val (.int (1 : Int32)), .val (.int (3 : Int32))]) rfl ?_
        show Steps p.tables e below (T51.setTop (mkF m 114 #[.val (.ref b1), .val (.long x0), .second, .val (.long x4), .second, .val (.int (1 : Int32)), .val (.int (3 : Int32))] [])) _
        refine XS.goto X51.here hx rfl (pc0 := 114) (pc' := 30) rfl (hb hby dR_114) (by decide) (by decide) ?_
        show Steps p.tables e below (T51.setTop (mkF m 30 #[.val (.ref b1), .val (.long x0), .second, .val (.long x4), .second, .val (.int (1 : Int32)), .val (.int (3 : Int32))] [])) _
        refine XS.iload X51.here hx rfl (hb hby dR_30) rfl ?_
        show Steps p.tables e below (T51.setTop (mkF m 32 #[.val (.ref b1), .val (.long x0), .second, .val (.long x4), .second, .val (.int (1 : Int32)), .val (.int (3 : Int32))] [(.int (3 : Int32))])) _
        refine XS.aloadN X51.here hx rfl (hb hby dR_32) rfl rfl ?_
        show Steps p.tables e below (T51.setTop (mkF m 33 #[.val (.ref b1), .val (.long x0), .second, .val (.long x4), .second, .val (.int (1 : Int32)), .val (.int (3 : Int32))] [(.ref b1), (.int (3 : Int32))])) _
        refine st56 _ ?_
        show Steps p.tables e below (T56.setTop (mkF m 36 #[.val (.ref b1), .val (.long x0), .second, .val (.long x4), .second, .val (.int (1 : Int32)), .val (.int (3 : Int32))] [(.int (4 : Int32)), (.int (3 : Int32))])) _
        refine XS.icmpNo X56.here hx rfl (hb hby dR_36) rfl (tlt hc36_57).2.1 ?_
        show Steps p.tables e below (T56.setTop (mkF m 39 #[.val (.ref b1), .val (.long x0), .second, .val (.long x4), .second, .val (.int (1 : Int32)), .val (.int (3 : Int32))] [])) _
        refine XS.iload X56.here hx rfl (hb hby dR_39) rfl ?_
        show Steps p.tables e below (T56.setTop (mkF m 41 #[.val (.ref b1), .val (.long x0), .second, .val (.long x4), .second, .val (.int (1 : Int32)), .val (.int (3 : Int32))] [(.int (3 : Int32))])) _
        refine XS.iconst X56.here hx rfl (hb hby dR_41) ?_
        show Steps p.tables e below (T56.setTop (mkF m 42 #[.val (.ref b1), .val (.long x0), .second, .val (.long x4), .second, .val (.int (1 : Int32)), .val (.int (3 : Int32))] [(.int (1 : Int32)), (.int (3 : Int32))])) _
        refine XS.iadd X56.here hx rfl (hb hby dR_42) rfl ?_
        show Steps p.tables e below (T56.setTop (mkF m 43 #[.val (.ref b1), .val (.long x0), .second, .val (.long x4), .second, .val (.int (1 : Int32)), .val (.int (3 : Int32))] [(.int (4 : Int32))])) _
        refine XS.aloadN X56.here hx rfl (hb hby dR_43) rfl rfl ?_
        show Steps p.tables e below (T56.setTop (mkF m 44 #[.val (.ref b1), .val (.long x0), .second, .val (.long x4), .second, .val (.int (1 : Int32)), .val (.int (3 : Int32))] [(.ref b1), (.int (4 : Int32))])) _
        refine st58 _ ?_
        show Steps p.tables e below (T58.setTop (mkF m 47 #[.val (.ref b1), .val (.long x0), .second, .val (.long x4), .second, .val (.int (1 : Int32)), .val (.int (3 : Int32))] [(.int (4 : Int32)), (.int (4 : Int32))])) _
        refine XS.icmpYes X58.here hx rfl (pc0 := 47) (pc' := 73) rfl (hb hby dR_47) rfl (flt hc47_59).2.1 (by decide) (by decide) ?_
        show Steps p.tables e below (T58.setTop (mkF m 73 #[.val (.ref b1), .val (.long x0), .second, .val (.long x4), .second, .val (.int (1 : Int32)), .val (.int (3 : Int32))] [])) _
        refine XS.aloadN X58.here hx rfl (hb hby dR_73) rfl rfl ?_
        show Steps p.tables e below (T58.setTop (mkF m 74 #[.val (.ref b1), .val (.long x0), .second, .val (.long x4), .second, .val (.int (1 : Int32)), .val (.int (3 : Int32))] [(.ref b1)])) _
        refine st60 _ ?_
        show Steps p.tables e below (T60.setTop (mkF m 77 #[.val (.ref b1), .val (.long x0), .second, .val (.long x4), .second, .val (.int (1 : Int32)), .val (.int (3 : Int32))] [(.ref q1)])) _
        refine XS.iload X60.here hx rfl (hb hby dR_77) rfl ?_
        show Steps p.tables e below (T60.setTop (mkF m 79 #[.val (.ref b1), .val (.long x0), .second, .val (.long x4), .second, .val (.int (1 : Int32)), .val (.int (3 : Int32))] [(.int (3 : Int32)), (.ref q1)])) _
        refine X60.laload hx (j := (3 : Int32)) (v := (.long x3)) (by rw [e60]; exact Ar61.1) (State.isArrayOf_alike hZ.alike Ar61.2.1) Ar61.2.2 (own_hin S61 hi62) ha62 (g := (mkF m 79 #[.val (.ref b1), .val (.long x0), .second, .val (.long x4), .second, .val (.int (1 : Int32)), .val (.int (3 : Int32))] [(.int (3 : Int32)), (.ref q1)])) rfl rfl (hb hby dR_79) _ ?_
        show Steps p.tables e below (T60.setTop (mkF m 80 #[.val (.ref b1), .val (.long x0), .second, .val (.long x4), .second, .val (.int (1 : Int32)), .val (.int (3 : Int32))] [(.long x3)])) _
        refine XS.lloadN X60.here hx rfl (hb hby dR_80) rfl ?_
        show Steps p.tables e below (T60.setTop (mkF m 81 #[.val (.ref b1), .val (.long x0), .second, .val (.long x4), .second, .val (.int (1 : Int32)), .val (.int (3 : Int32))] [(.long x4), (.long x3)])) _
        refine XS.lcmp X60.here hx rfl (hb hby dR_81) rfl ?_
        show Steps p.tables e below (T60.setTop (mkF m 82 #[.val (.ref b1), .val (.long x0), .second, .val (.long x4), .second, .val (.int (1 : Int32)), .val (.int (3 : Int32))] [(.int (lcmpW x3 x4))])) _
        exact k
      by_cases hc82x : x3 < x4
      · obtain ⟨T63, X63, e63, st63⟩ := getF X60 hx hZ hown (host := "") (Or.inl (hw _ (List.mem_of_getElem? (i := 14) rfl))) Via.refl e60 F53 (g := (mkF m 89 #[.val (.ref b1), .val (.long x0), .second, .val (.long x4), .second, .val (.int (1 : Int32)), .val (.int (3 : Int32))] [(.ref b1)])) rfl rfl (hb hby dR_89)
        obtain ⟨T64, X64, e64, st64⟩ := getF X63 hx hZ hown (host := "") (Or.inl (hw _ (List.mem_of_getElem? (i := 14) rfl))) Via.refl e63 F53 (g := (mkF m 95 #[.val (.ref b1), .val (.long x0), .second, .val (.long x4), .second, .val (.int (1 : Int32)), .val (.int (3 : Int32))] [(.ref b1), (.int (1 : Int32)), (.ref q1)])) rfl rfl (hb hby dR_95)
        have hi65 : ¬ (3 : Int32) < 0 ∧ (3 : Int32).toNatClampNeg < (16 : Int32).toNatClampNeg := by decide
        have ha65 : cl61.slots[(3 : Int32).toNatClampNeg]? = some (.long x3) := H61 _ (by rw [S61]; exact hi65.2)
        obtain ⟨T66, h66, X66, e66, W66, st66⟩ := stJ X64 hx hZ e64 Ar61 (j := (1 : Int32)) (by rw [S61]; decide) (g := (mkF m 101 #[.val (.ref b1), .val (.long x0), .second, .val (.long x4), .second, .val (.int (1 : Int32)), .val (.int (3 : Int32))] [(.long x3), (.int (1 : Int32)), (.ref q1)])) rfl rfl (hb hby dR_101)
        have N66 := Fr.snoc X66 N51 lo_q1
        obtain ⟨lc66, X66, N66⟩ := own_lc X66 N66
        have V67 : Arv Z h66 q1 k1 .long (16 : Int32) [(.long x1), (.long x3), (.long x2), (.long x3), (.long x4), (.long x5), (.long (0 : Int64)), (.long (0 : Int64)), (.long (0 : Int64)), (.long (0 : Int64)), (.long (0 : Int64)), (.long (0 : Int64)), (.long (0 : Int64)), (.long (0 : Int64)), (.long (0 : Int64)), (.long (0 : Int64))] (.long (0 : Int64)) := Arv.set Ar61 q61 S61 M61 H61 U61 rfl W66 1 rfl (by show 1 < 16; decide)
        have K66 := K51.wr W66 (Or.inl (List.mem_of_getElem? (i := 1) rfl))
        have F68 := F53.other W66 (Or.inl (Nat.ne_of_lt lt_q))
        have F69 := F54.other W66 (Or.inl (Nat.ne_of_lt lt_q))
        have E70 := E55.wr W66
        have Z66 : n0 ≤ h66.size := by rw [W66.size]; exact Z51
        obtain ⟨T71, X71, e71, st71⟩ := getF X66 hx hZ hown (host := "") (Or.inl (hw _ (List.mem_of_getElem? (i := 21) rfl))) Via.refl e66 F69 (g := (mkF m 33 #[.val (.ref b1), .val (.long x0), .second, .val (.long x4), .second, .val (.int (3 : Int32)), .val (.int (7 : Int32))] [(.ref b1), (.int (7 : Int32))])) rfl rfl (hb hby dR_33)
        have hc36_72 : ¬ ((7 : Int32) < (4 : Int32)) := (by decide)
        obtain ⟨T73, X73, e73, st73⟩ := getF X71 hx hZ hown (host := "") (Or.inl (hw _ (List.mem_of_getElem? (i := 14) rfl))) Via.refl e71 F68 (g := (mkF m 118 #[.val (.ref b1), .val (.long x0), .second, .val (.long x4), .second, .val (.int (3 : Int32)), .val (.int (7 : Int32))] [(.ref b1)])) rfl rfl (hb hby dR_118)
        obtain ⟨cl74, Ar74, q74, S74, M74, H74, U74⟩ := id V67
        obtain ⟨T75, h75, X75, e75, W75, st75⟩ := stJ X73 hx hZ e73 Ar74 (j := (3 : Int32)) (by rw [S74]; decide) (g := (mkF m 124 #[.val (.ref b1), .val (.long x0), .second, .val (.long x4), .second, .val (.int (3 : Int32)), .val (.int (7 : Int32))] [(.long x4), (.int (3 : Int32)), (.ref q1)])) rfl rfl (hb hby dR_124)
        have N75 := Fr.snoc X75 N66 lo_q1
        obtain ⟨lc75, X75, N75⟩ := own_lc X75 N75
        have V76 : Arv Z h75 q1 k1 .long (16 : Int32) [(.long x1), (.long x3), (.long x2), (.long x4), (.long x4), (.long x5), (.long (0 : Int64)), (.long (0 : Int64)), (.long (0 : Int64)), (.long (0 : Int64)), (.long (0 : Int64)), (.long (0 : Int64)), (.long (0 : Int64)), (.long (0 : Int64)), (.long (0 : Int64)), (.long (0 : Int64))] (.long (0 : Int64)) := Arv.set Ar74 q74 S74 M74 H74 U74 rfl W75 3 rfl (by show 3 < 16; decide)
        have K75 := K66.wr W75 (Or.inl (List.mem_of_getElem? (i := 1) rfl))
        have F77 := F68.other W75 (Or.inl (Nat.ne_of_lt lt_q))
        have F78 := F69.other W75 (Or.inl (Nat.ne_of_lt lt_q))
        have E79 := E70.wr W75
        have Z75 : n0 ≤ h75.size := by rw [W75.size]; exact Z66
        refine own_end X75 Bd.notSynchronized (v := some (.long x0)) (fun h => by rw [Bd.returns] at h; cases h) (fun fs hr => ?_) e75 ?_ (by decide) (by decide)
        · show Steps p.tables e below (T60.setTop (mkF m 82 #[.val (.ref b1), .val (.long x0), .second, .val (.long x4), .second, .val (.int (1 : Int32)), .val (.int (3 : Int32))] [(.int (lcmpW x3 x4))])) _
          refine XS.ifYes X60.here hx rfl (pc0 := 82) (pc' := 88) rfl (hb hby dR_82) rfl ((if0 _ _).trans (tlt ((lw_lt x3 x4).mpr hc82x)).1) (by decide) (by decide) ?_
          show Steps p.tables e below (T60.setTop (mkF m 88 #[.val (.ref b1), .val (.long x0), .second, .val (.long x4), .second, .val (.int (1 : Int32)), .val (.int (3 : Int32))] [])) _
          refine XS.aloadN X60.here hx rfl (hb hby dR_88) rfl rfl ?_
          show Steps p.tables e below (T60.setTop (mkF m 89 #[.val (.ref b1), .val (.long x0), .second, .val (.long x4), .second, .val (.int (1 : Int32)), .val (.int (3 : Int32))] [(.ref b1)])) _
          refine st63 _ ?_
          show Steps p.tables e below (T63.setTop (mkF m 92 #[.val (.ref b1), .val (.long x0), .second, .val (.long x4), .second, .val (.int (1 : Int32)), .val (.int (3 : Int32))] [(.ref q1)])) _
          refine XS.iload X63.here hx rfl (hb hby dR_92) rfl ?_
          show Steps p.tables e below (T63.setTop (mkF m 94 #[.val (.ref b1), .val (.long x0), .second, .val (.long x4), .second, .val (.int (1 : Int32)), .val (.int (3 : Int32))] [(.int (1 : Int32)), (.ref q1)])) _
          refine XS.aloadN X63.here hx rfl (hb hby dR_94) rfl rfl ?_
          show Steps p.tables e below (T63.setTop (mkF m 95 #[.val (.ref b1), .val (.long x0), .second, .val (.long x4), .second, .val (.int (1 : Int32)), .val (.int (3 : Int32))] [(.ref b1), (.int (1 : Int32)), (.ref q1)])) _
          refine st64 _ ?_
          show Steps p.tables e below (T64.setTop (mkF m 98 #[.val (.ref b1), .val (.long x0), .second, .val (.long x4), .second, .val (.int (1 : Int32)), .val (.int (3 : Int32))] [(.ref q1), (.int (1 : Int32)), (.ref q1)])) _
          refine XS.iload X64.here hx rfl (hb hby dR_98) rfl ?_
          show Steps p.tables e below (T64.setTop (mkF m 100 #[.val (.ref b1), .val (.long x0), .second, .val (.long x4), .second, .val (.int (1 : Int32)), .val (.int (3 : Int32))] [(.int (3 : Int32)), (.ref q1), (.int (1 : Int32)), (.ref q1)])) _
          refine X64.laload hx (j := (3 : Int32)) (v := (.long x3)) (by rw [e64]; exact Ar61.1) (State.isArrayOf_alike hZ.alike Ar61.2.1) Ar61.2.2 (own_hin S61 hi65) ha65 (g := (mkF m 100 #[.val (.ref b1), .val (.long x0), .second, .val (.long x4), .second, .val (.int (1 : Int32)), .val (.int (3 : Int32))] [(.int (3 : Int32)), (.ref q1), (.int (1 : Int32)), (.ref q1)])) rfl rfl (hb hby dR_100) _ ?_
          show Steps p.tables e below (T64.setTop (mkF m 101 #[.val (.ref b1), .val (.long x0), .second, .val (.long x4), .second, .val (.int (1 : Int32)), .val (.int (3 : Int32))] [(.long x3), (.int (1 : Int32)), (.ref q1)])) _
          refine st66 _ ?_
          show Steps p.tables e below (T66.setTop (mkF m 102 #[.val (.ref b1), .val (.long x0), .second, .val (.long x4), .second, .val (.int (1 : Int32)), .val (.int (3 : Int32))] [])) _
          refine XS.iload X66.here hx rfl (hb hby dR_102) rfl ?_
          show Steps p.tables e below (T66.setTop (mkF m 104 #[.val (.ref b1), .val (.long x0), .second, .val (.long x4), .second, .val (.int (1 : Int32)), .val (.int (3 : Int32))] [(.int (3 : Int32))])) _
          refine XS.istore X66.here hx rfl (hb hby dR_104) rfl (l' := #[.val (.ref b1), .val (.long x0), .second, .val (.long x4), .second, .val (.int (3 : Int32)), .val (.int (3 : Int32))]) rfl ?_
          show Steps p.tables e below (T66.setTop (mkF m 106 #[.val (.ref b1), .val (.long x0), .second, .val (.long x4), .second, .val (.int (3 : Int32)), .val (.int (3 : Int32))] [])) _
          refine XS.iconst X66.here hx rfl (hb hby dR_106) ?_
          show Steps p.tables e below (T66.setTop (mkF m 107 #[.val (.ref b1), .val (.long x0), .second, .val (.long x4), .second, .val (.int (3 : Int32)), .val (.int (3 : Int32))] [(.int (2 : Int32))])) _
          refine XS.iload X66.here hx rfl (hb hby dR_107) rfl ?_
          show Steps p.tables e below (T66.setTop (mkF m 109 #[.val (.ref b1), .val (.long x0), .second, .val (.long x4), .second, .val (.int (3 : Int32)), .val (.int (3 : Int32))] [(.int (3 : Int32)), (.int (2 : Int32))])) _
          refine XS.imul X66.here hx rfl (hb hby dR_109) rfl ?_
          show Steps p.tables e below (T66.setTop (mkF m 110 #[.val (.ref b1), .val (.long x0), .second, .val (.long x4), .second, .val (.int (3 : Int32)), .val (.int (3 : Int32))] [(.int (6 : Int32))])) _
          refine XS.iconst X66.here hx rfl (hb hby dR_110) ?_
          show Steps p.tables e below (T66.setTop (mkF m 111 #[.val (.ref b1), .val (.long x0), .second, .val (.long x4), .second, .val (.int (3 : Int32)), .val (.int (3 : Int32))] [(.int (1 : Int32)), (.int (6 : Int32))])) _
          refine XS.iadd X66.here hx rfl (hb hby dR_111) rfl ?_
          show Steps p.tables e below (T66.setTop (mkF m 112 #[.val (.ref b1), .val (.long x0), .second, .val (.long x4), .second, .val (.int (3 : Int32)), .val (.int (3 : Int32))] [(.int (7 : Int32))])) _
          refine XS.istore X66.here hx rfl (hb hby dR_112) rfl (l' := #[.val (.ref b1), .val (.long x0), .second, .val (.long x4), .second, .val (.int (3 : Int32)), .val (.int (7 : Int32))]) rfl ?_
          show Steps p.tables e below (T66.setTop (mkF m 114 #[.val (.ref b1), .val (.long x0), .second, .val (.long x4), .second, .val (.int (3 : Int32)), .val (.int (7 : Int32))] [])) _
          refine XS.goto X66.here hx rfl (pc0 := 114) (pc' := 30) rfl (hb hby dR_114) (by decide) (by decide) ?_
          show Steps p.tables e below (T66.setTop (mkF m 30 #[.val (.ref b1), .val (.long x0), .second, .val (.long x4), .second, .val (.int (3 : Int32)), .val (.int (7 : Int32))] [])) _
          refine XS.iload X66.here hx rfl (hb hby dR_30) rfl ?_
          show Steps p.tables e below (T66.setTop (mkF m 32 #[.val (.ref b1), .val (.long x0), .second, .val (.long x4), .second, .val (.int (3 : Int32)), .val (.int (7 : Int32))] [(.int (7 : Int32))])) _
          refine XS.aloadN X66.here hx rfl (hb hby dR_32) rfl rfl ?_
          show Steps p.tables e below (T66.setTop (mkF m 33 #[.val (.ref b1), .val (.long x0), .second, .val (.long x4), .second, .val (.int (3 : Int32)), .val (.int (7 : Int32))] [(.ref b1), (.int (7 : Int32))])) _
          refine st71 _ ?_
          show Steps p.tables e below (T71.setTop (mkF m 36 #[.val (.ref b1), .val (.long x0), .second, .val (.long x4), .second, .val (.int (3 : Int32)), .val (.int (7 : Int32))] [(.int (4 : Int32)), (.int (7 : Int32))])) _
          refine XS.icmpYes X71.here hx rfl (pc0 := 36) (pc' := 117) rfl (hb hby dR_36) rfl (flt hc36_72).2.1 (by decide) (by decide) ?_
          show Steps p.tables e below (T71.setTop (mkF m 117 #[.val (.ref b1), .val (.long x0), .second, .val (.long x4), .second, .val (.int (3 : Int32)), .val (.int (7 : Int32))] [])) _
          refine XS.aloadN X71.here hx rfl (hb hby dR_117) rfl rfl ?_
          show Steps p.tables e below (T71.setTop (mkF m 118 #[.val (.ref b1), .val (.long x0), .second, .val (.long x4), .second, .val (.int (3 : Int32)), .val (.int (7 : Int32))] [(.ref b1)])) _
          refine st73 _ ?_
          show Steps p.tables e below (T73.setTop (mkF m 121 #[.val (.ref b1), .val (.long x0), .second, .val (.long x4), .second, .val (.int (3 : Int32)), .val (.int (7 : Int32))] [(.ref q1)])) _
          refine XS.iload X73.here hx rfl (hb hby dR_121) rfl ?_
          show Steps p.tables e below (T73.setTop (mkF m 123 #[.val (.ref b1), .val (.long x0), .second, .val (.long x4), .second, .val (.int (3 : Int32)), .val (.int (7 : Int32))] [(.int (3 : Int32)), (.ref q1)])) _
          refine XS.lloadN X73.here hx rfl (hb hby dR_123) rfl ?_
          show Steps p.tables e below (T73.setTop (mkF m 124 #[.val (.ref b1), .val (.long x0), .second, .val (.long x4), .second, .val (.int (3 : Int32)), .val (.int (7 : Int32))] [(.long x4), (.int (3 : Int32)), (.ref q1)])) _
          refine st75 _ ?_
          show Steps p.tables e below (T75.setTop (mkF m 125 #[.val (.ref b1), .val (.long x0), .second, .val (.long x4), .second, .val (.int (3 : Int32)), .val (.int (7 : Int32))] [])) _
          refine XS.lloadN X75.here hx rfl (hb hby dR_125) rfl ?_
          show Steps p.tables e below (T75.setTop (mkF m 126 #[.val (.ref b1), .val (.long x0), .second, .val (.long x4), .second, .val (.int (3 : Int32)), .val (.int (7 : Int32))] [(.long x0)])) _
          exact X75.lreturnOut hx Bd.returns (hb hby dR_126) hr
        · exact ⟨rfl, N75, K75, E79, F77, F78, _, _, _, _, _, _, by rw [own_rem_5, if_neg hc67, if_pos hc82, if_pos hc82x], V76⟩
      · obtain ⟨T80, X80, e80, st80⟩ := getF X60 hx hZ hown (host := "") (Or.inl (hw _ (List.mem_of_getElem? (i := 14) rfl))) Via.refl e60 F53 (g := (mkF m 118 #[.val (.ref b1), .val (.long x0), .second, .val (.long x4), .second, .val (.int (1 : Int32)), .val (.int (3 : Int32))] [(.ref b1)])) rfl rfl (hb hby dR_118)
        obtain ⟨T81, h81, X81, e81, W81, st81⟩ := stJ X80 hx hZ e80 Ar61 (j := (1 : Int32)) (by rw [S61]; decide) (g := (mkF m 124 #[.val (.ref b1), .val (.long x0), .second, .val (.long x4), .second, .val (.int (1 : Int32)), .val (.int (3 : Int32))] [(.long x4), (.int (1 : Int32)), (.ref q1)])) rfl rfl (hb hby dR_124)
        have N81 := Fr.snoc X81 N51 lo_q1
        obtain ⟨lc81, X81, N81⟩ := own_lc X81 N81
        have V82 : Arv Z h81 q1 k1 .long (16 : Int32) [(.long x1), (.long x4), (.long x2), (.long x3), (.long x4), (.long x5), (.long (0 : Int64)), (.long (0 : Int64)), (.long (0 : Int64)), (.long (0 : Int64)), (.long (0 : Int64)), (.long (0 : Int64)), (.long (0 : Int64)), (.long (0 : Int64)), (.long (0 : Int64)), (.long (0 : Int64))] (.long (0 : Int64)) := Arv.set Ar61 q61 S61 M61 H61 U61 rfl W81 1 rfl (by show 1 < 16; decide)
        have K81 := K51.wr W81 (Or.inl (List.mem_of_getElem? (i := 1) rfl))
        have F83 := F53.other W81 (Or.inl (Nat.ne_of_lt lt_q))
        have F84 := F54.other W81 (Or.inl (Nat.ne_of_lt lt_q))
        have E85 := E55.wr W81
        have Z81 : n0 ≤ h81.size := by rw [W81.size]; exact Z51
        refine own_end X81 Bd.notSynchronized (v := some (.long x0)) (fun h => by rw [Bd.returns] at h; cases h) (fun fs hr => ?_) e81 ?_ (by decide) (by decide)
        · show Steps p.tables e below (T60.setTop (mkF m 82 #[.val (.ref b1), .val (.long x0), .second, .val (.long x4), .second, .val (.int (1 : Int32)), .val (.int (3 : Int32))] [(.int (lcmpW x3 x4))])) _
          refine XS.ifNo X60.here hx rfl (hb hby dR_82) rfl ((if0 _ _).trans (flt (fun q => hc82x ((lw_lt x3 x4).mp q))).1) ?_
          show Steps p.tables e below (T60.setTop (mkF m 85 #[.val (.ref b1), .val (.long x0), .second, .val (.long x4), .second, .val (.int (1 : Int32)), .val (.int (3 : Int32))] [])) _
          refine XS.goto X60.here hx rfl (pc0 := 85) (pc' := 117) rfl (hb hby dR_85) (by decide) (by decide) ?_
          show Steps p.tables e below (T60.setTop (mkF m 117 #[.val (.ref b1), .val (.long x0), .second, .val (.long x4), .second, .val (.int (1 : Int32)), .val (.int (3 : Int32))] [])) _
          refine XS.aloadN X60.here hx rfl (hb hby dR_117) rfl rfl ?_
          show Steps p.tables e below (T60.setTop (mkF m 118 #[.val (.ref b1), .val (.long x0), .second, .val (.long x4), .second, .val (.int (1 : Int32)), .val (.int (3 : Int32))] [(.ref b1)])) _
          refine st80 _ ?_
          show Steps p.tables e below (T80.setTop (mkF m 121 #[.val (.ref b1), .val (.long x0), .second, .val (.long x4), .second, .val (.int (1 : Int32)), .val (.int (3 : Int32))] [(.ref q1)])) _
          refine XS.iload X80.here hx rfl (hb hby dR_121) rfl ?_
          show Steps p.tables e below (T80.setTop (mkF m 123 #[.val (.ref b1), .val (.long x0), .second, .val (.long x4), .second, .val (.int (1 : Int32)), .val (.int (3 : Int32))] [(.int (1 : Int32)), (.ref q1)])) _
          refine XS.lloadN X80.here hx rfl (hb hby dR_123) rfl ?_
          show Steps p.tables e below (T80.setTop (mkF m 124 #[.val (.ref b1), .val (.long x0), .second, .val (.long x4), .second, .val (.int (1 : Int32)), .val (.int (3 : Int32))] [(.long x4), (.int (1 : Int32)), (.ref q1)])) _
          refine st81 _ ?_
          show Steps p.tables e below (T81.setTop (mkF m 125 #[.val (.ref b1), .val (.long x0), .second, .val (.long x4), .second, .val (.int (1 : Int32)), .val (.int (3 : Int32))] [])) _
          refine XS.lloadN X81.here hx rfl (hb hby dR_125) rfl ?_
          show Steps p.tables e below (T81.setTop (mkF m 126 #[.val (.ref b1), .val (.long x0), .second, .val (.long x4), .second, .val (.int (1 : Int32)), .val (.int (3 : Int32))] [(.long x0)])) _
          exact X81.lreturnOut hx Bd.returns (hb hby dR_126) hr
        · exact ⟨rfl, N81, K81, E85, F83, F84, _, _, _, _, _, _, by rw [own_rem_5, if_neg hc67, if_pos hc82, if_neg hc82x], V82⟩
    · obtain ⟨T86, X86, e86, st86⟩ := getF X46 hx hZ hown (host := "") (Or.inl (hw _ (List.mem_of_getElem? (i := 14) rfl))) Via.refl e46 F8 (g := (mkF m 118 #[.val (.ref b1), .val (.long x0), .second, .val (.long x4), .second, .val (.int (0 : Int32)), .val (.int (1 : Int32))] [(.ref b1)])) rfl rfl (hb hby dR_118)
      obtain ⟨T87, h87, X87, e87, W87, st87⟩ := stJ X86 hx hZ e86 Ar11 (j := (0 : Int32)) (by rw [S11]; decide) (g := (mkF m 124 #[.val (.ref b1), .val (.long x0), .second, .val (.long x4), .second, .val (.int (0 : Int32)), .val (.int (1 : Int32))] [(.long x4), (.int (0 : Int32)), (.ref q1)])) rfl rfl (hb hby dR_124)
      have N87 := Fr.snoc X87 N6 lo_q1
      obtain ⟨lc87, X87, N87⟩ := own_lc X87 N87
      have V88 : Arv Z h87 q1 k1 .long (16 : Int32) [(.long x4), (.long x1), (.long x2), (.long x3), (.long x4), (.long x5), (.long (0 : Int64)), (.long (0 : Int64)), (.long (0 : Int64)), (.long (0 : Int64)), (.long (0 : Int64)), (.long (0 : Int64)), (.long (0 : Int64)), (.long (0 : Int64)), (.long (0 : Int64)), (.long (0 : Int64))] (.long (0 : Int64)) := Arv.set Ar11 q11 S11 M11 H11 U11 rfl W87 0 rfl (by show 0 < 16; decide)
      have K87 := K6.wr W87 (Or.inl (List.mem_of_getElem? (i := 1) rfl))
      have F89 := F8.other W87 (Or.inl (Nat.ne_of_lt lt_q))
      have F90 := F7.other W87 (Or.inl (Nat.ne_of_lt lt_q))
      have E91 := E9.wr W87
      have Z87 : n0 ≤ h87.size := by rw [W87.size]; exact Z6
      refine own_end X87 Bd.notSynchronized (v := some (.long x0)) (fun h => by rw [Bd.returns] at h; cases h) (fun fs hr => ?_) e87 ?_ (by decide) (by decide)
      · show Steps p.tables e below (T46.setTop (mkF m 82 #[.val (.ref b1), .val (.long x0), .second, .val (.long x4), .second, .val (.int (0 : Int32)), .val (.int (1 : Int32))] [(.int (lcmpW x1 x4))])) _
        refine XS.ifNo X46.here hx rfl (hb hby dR_82) rfl ((if0 _ _).trans (flt (fun q => hc82 ((lw_lt x1 x4).mp q))).1) ?_
        show Steps p.tables e below (T46.setTop (mkF m 85 #[.val (.ref b1), .val (.long x0), .second, .val (.long x4), .second, .val (.int (0 : Int32)), .val (.int (1 : Int32))] [])) _
        refine XS.goto X46.here hx rfl (pc0 := 85) (pc' := 117) rfl (hb hby dR_85) (by decide) (by decide) ?_
        show Steps p.tables e below (T46.setTop (mkF m 117 #[.val (.ref b1), .val (.long x0), .second, .val (.long x4), .second, .val (.int (0 : Int32)), .val (.int (1 : Int32))] [])) _
        refine XS.aloadN X46.here hx rfl (hb hby dR_117) rfl rfl ?_
        show Steps p.tables e below (T46.setTop (mkF m 118 #[.val (.ref b1), .val (.long x0), .second, .val (.long x4), .second, .val (.int (0 : Int32)), .val (.int (1 : Int32))] [(.ref b1)])) _
        refine st86 _ ?_
        show Steps p.tables e below (T86.setTop (mkF m 121 #[.val (.ref b1), .val (.long x0), .second, .val (.long x4), .second, .val (.int (0 : Int32)), .val (.int (1 : Int32))] [(.ref q1)])) _
        refine XS.iload X86.here hx rfl (hb hby dR_121) rfl ?_
        show Steps p.tables e below (T86.setTop (mkF m 123 #[.val (.ref b1), .val (.long x0), .second, .val (.long x4), .second, .val (.int (0 : Int32)), .val (.int (1 : Int32))] [(.int (0 : Int32)), (.ref q1)])) _
        refine XS.lloadN X86.here hx rfl (hb hby dR_123) rfl ?_
        show Steps p.tables e below (T86.setTop (mkF m 124 #[.val (.ref b1), .val (.long x0), .second, .val (.long x4), .second, .val (.int (0 : Int32)), .val (.int (1 : Int32))] [(.long x4), (.int (0 : Int32)), (.ref q1)])) _
        refine st87 _ ?_
        show Steps p.tables e below (T87.setTop (mkF m 125 #[.val (.ref b1), .val (.long x0), .second, .val (.long x4), .second, .val (.int (0 : Int32)), .val (.int (1 : Int32))] [])) _
        refine XS.lloadN X87.here hx rfl (hb hby dR_125) rfl ?_
        show Steps p.tables e below (T87.setTop (mkF m 126 #[.val (.ref b1), .val (.long x0), .second, .val (.long x4), .second, .val (.int (0 : Int32)), .val (.int (1 : Int32))] [(.long x0)])) _
        exact X87.lreturnOut hx Bd.returns (hb hby dR_126) hr
      · exact ⟨rfl, N87, K87, E91, F89, F90, _, _, _, _, _, _, by rw [own_rem_5, if_neg hc67, if_neg hc82], V88⟩
def own_rem_4 (x0 : Int64) (x1 : Int64) (x2 : Int64) (x3 : Int64) (x4 : Int64) (x5 : Int64) : List Int64 :=
  if x2 < x1 then
    if x2 < x3 then
      [x2, x1, x3, x3, x4, x5]
    else
      [x3, x1, x2, x3, x4, x5]
  else
    if x1 < x3 then
      [x1, x3, x2, x3, x4, x5]
    else
      [x3, x1, x2, x3, x4, x5]
theorem pn_r4 : plainName "com/example/kdata/kdata/LongHeap" = true := by first | (simp [plainName, overriddenIn]; done) | decide +kernel
theorem ef_r4 (m : MethodId) (x0 : Addr) : entryFrame m #[(.ref x0)] 7 = mkF m 0 #[.val (.ref x0), .unset, .unset, .unset, .unset, .unset, .unset] [] := by first | (simp [entryFrame, mkF, argsToLocals, Value.category]; done) | rfl
def Qr4 (Z : State) (b1 q1 : Addr) (k1 : ClassId) (x0 : Int64) (x1 : Int64) (x2 : Int64) (x3 : Int64) (x4 : Int64) (x5 : Int64) (h0 : Heap) (n0 : Nat) (v : Option Value) (h : Heap) (L : List Loc) : Prop := v = some (.long x0) ∧ Fr n0 L ∧ Keep h0 h [b1, q1] ∧ Exa Z h b1 "com/example/kdata/kdata/LongHeap" ∧ Fld Z h b1 "com/example/kdata/kdata/LongHeap" "data" "[J" (.ref q1) ∧ Fld Z h b1 "com/example/kdata/kdata/LongHeap" "size" "I" (.int (3 : Int32)) ∧ ∃ z0 z1 z2 z3 z4 z5 : Int64, [z0, z1, z2, z3, z4, z5] = own_rem_4 x0 x1 x2 x3 x4 x5 ∧ Arv Z h q1 k1 .long (16 : Int32) [(.long z0), (.long z1), (.long z2), (.long z3), (.long z4), (.long z5), (.long (0 : Int64)), (.long (0 : Int64)), (.long (0 : Int64)), (.long (0 : Int64)), (.long (0 : Int64)), (.long (0 : Int64)), (.long (0 : Int64)), (.long (0 : Int64)), (.long (0 : Int64)), (.long (0 : Int64))] (.long (0 : Int64))
set_option maxRecDepth 65536 in
set_option maxHeartbeats 40000000 in
theorem rmr4 (l : Launch) (Z : State) (a0 : Array Value) (hw : ∀ d ∈ tables_1, d.before a0 Z = true) (ws : List Jvm.Cond)  (b1 q1 : Addr) (k1 : ClassId) (x0 : Int64) (x1 : Int64) (x2 : Int64) (x3 : Int64) (x4 : Int64) (x5 : Int64) (h0 : Heap) (n0 : Nat) (Z0 : n0 ≤ h0.size) (F_d : Fld Z h0 b1 "com/example/kdata/kdata/LongHeap" "data" "[J" (.ref q1)) (F_s : Fld Z h0 b1 "com/example/kdata/kdata/LongHeap" "size" "I" (.int (4 : Int32))) (E_b1 : Exa Z h0 b1 "com/example/kdata/kdata/LongHeap") (lo_b1 : n0 ≤ b1) (lo_q1 : n0 ≤ q1) (lt_q : b1 < q1) (V_q1 : Arv Z h0 q1 k1 .long (16 : Int32) [(.long x0), (.long x1), (.long x2), (.long x3), (.long x4), (.long x5), (.long (0 : Int64)), (.long (0 : Int64)), (.long (0 : Int64)), (.long (0 : Int64)), (.long (0 : Int64)), (.long (0 : Int64)), (.long (0 : Int64)), (.long (0 : Int64)), (.long (0 : Int64)), (.long (0 : Int64))] (.long (0 : Int64))) :
    MetFree l (⟨"com/example/kdata/kdata/LongHeap", "removeLeast", "()J"⟩ : MethodName) (head1 (Jvm.Cond.code (⟨"com/example/kdata/kdata/LongHeap", "removeLeast", "()J"⟩ : MethodName) prog_81_method_4_code 7 (some .long) :: ws) ({ frames := 0, cells := 0, slots := 0, locals := 0 } : Room)) (fun a U => a = #[(.ref b1)] ∧ Z.Warmed39 U.vm ∧ U.heap = h0) (fun _ _ _ _ _ => True) (fun _ U o U' => ∃ v L, o = .returned v ∧ Qr4 Z b1 q1 k1 x0 x1 x2 x3 x4 x5 h0 n0 v U'.heap L ∧ FrameEnd U o U' L ({ frames := 0, cells := 0, slots := 0, locals := 0 } : Room).cells ({ frames := 0, cells := 0, slots := 0, locals := 0 } : Room).slots) := by
  refine MetFree.of_bodySF (plainFor_of_name pn_r4) hisR ?_
  intro p e s m args below meth c s₁ Bd hml0 hP hK
  obtain ⟨rfl, hZ, hh⟩ := hP
  have hx := Bd.exec
  have hby := Bd.bytes
  have hml : c.maxLocals = 7 := hml0
  have hown : s.vm.findClass "com/example/kdata/kdata/LongHeap" = some m.cls := findClass_of_methodNamed Bd.named
  have hnm := (name_of_methodNamed Bd.named Bd.method).1
  have X0 : Stand p l e ({ frames := 0, cells := 0, slots := 0, locals := 0 } : Room) s m #[(.ref b1)] below meth c s₁ [] 0 0 := Stand.of_body Bd
  have e0 : s₁.heap = h0 := by rw [← hh, Bd.state]; rfl
  have N0 := Fr.nil n0
  show own_Go p e below s (Qr4 Z b1 q1 k1 x0 x1 x2 x3 x4 x5 h0 n0) ({ frames := 0, cells := 0, slots := 0, locals := 0 } : Room).cells ({ frames := 0, cells := 0, slots := 0, locals := 0 } : Room).slots (s₁.setTop (entryFrame m #[(.ref b1)] 7))
  refine own_go (b := s₁.setTop (mkF m 0 #[.val (.ref b1), .unset, .unset, .unset, .unset, .unset, .unset] [])) (fun t k => castTop (ef_r4 m b1) k) ?_
  have K0 := Keep.refl h0 [b1, q1]
  obtain ⟨T1, X1, e1, st1⟩ := getF X0 hx hZ hown (host := "") (Or.inl (hw _ (List.mem_of_getElem? (i := 14) rfl))) Via.refl e0 F_d (g := (mkF m 1 #[.val (.ref b1), .unset, .unset, .unset, .unset, .unset, .unset] [(.ref b1)])) rfl rfl (hb hby dR_1)
  obtain ⟨cl2, Ar2, q2, S2, M2, H2, U2⟩ := id V_q1
  have hi3 : ¬ (0 : Int32) < 0 ∧ (0 : Int32).toNatClampNeg < (16 : Int32).toNatClampNeg := by decide
  have ha3 : cl2.slots[(0 : Int32).toNatClampNeg]? = some (.long x0) := H2 _ (by rw [S2]; exact hi3.2)
  obtain ⟨T4, X4, e4, st4⟩ := getF X1 hx hZ hown (host := "") (Or.inl (hw _ (List.mem_of_getElem? (i := 14) rfl))) Via.refl e1 F_d (g := (mkF m 8 #[.val (.ref b1), .val (.long x0), .second, .unset, .unset, .unset, .unset] [(.ref b1)])) rfl rfl (hb hby dR_8)
  obtain ⟨T5, X5, e5, st5⟩ := getF X4 hx hZ hown (host := "") (Or.inl (hw _ (List.mem_of_getElem? (i := 21) rfl))) Via.refl e4 F_s (g := (mkF m 13 #[.val (.ref b1), .val (.long x0), .second, .unset, .unset, .unset, .unset] [(.ref b1), (.ref b1), (.ref q1)])) rfl rfl (hb hby dR_13)
  obtain ⟨T6, h6, X6, e6, W6, st6⟩ := putF X5 hx hZ hown (host := "") (Or.inl (hw _ (List.mem_of_getElem? (i := 21) rfl))) Via.refl e5 F_s E_b1 (Or.inl (hw _ (List.mem_of_getElem? (i := 22) rfl))) (hw _ (List.mem_of_getElem? (i := 6) rfl)) (ty := .int) (by decide) rfl rfl (g := (mkF m 19 #[.val (.ref b1), .val (.long x0), .second, .unset, .unset, .unset, .unset] [(.int (3 : Int32)), (.ref b1), (.int (3 : Int32)), (.ref q1)])) rfl rfl (hb hby dR_19)
  have N6 := Fr.snoc X6 N0 lo_b1
  obtain ⟨lc6, X6, N6⟩ := own_lc X6 N6
  have K6 := K0.wr W6 (Or.inl (List.mem_of_getElem? (i := 0) rfl))
  have F7 : Fld Z h6 b1 "com/example/kdata/kdata/LongHeap" "size" "I" (.int (3 : Int32)) := F_s.same W6
  have F8 := F_d.other W6 (Or.inr (slot_ne (Or.inl (hw _ (List.mem_of_getElem? (i := 15) rfl))) (Or.inl (hw _ (List.mem_of_getElem? (i := 22) rfl))) (by decide) (t := (.array .long)) (t' := .int) (by decide) (by decide)))
  have E9 := E_b1.wr W6
  have V10 := V_q1.other W6 (Nat.ne_of_gt lt_q)
  have Z6 : n0 ≤ h6.size := by rw [W6.size]; exact Z0
  obtain ⟨cl11, Ar11, q11, S11, M11, H11, U11⟩ := id V10
  have hi12 : ¬ (3 : Int32) < 0 ∧ (3 : Int32).toNatClampNeg < (16 : Int32).toNatClampNeg := by decide
  have ha12 : cl11.slots[(3 : Int32).toNatClampNeg]? = some (.long x3) := H11 _ (by rw [S11]; exact hi12.2)
  obtain ⟨T13, X13, e13, st13⟩ := getF X6 hx hZ hown (host := "") (Or.inl (hw _ (List.mem_of_getElem? (i := 21) rfl))) Via.refl e6 F7 (g := (mkF m 33 #[.val (.ref b1), .val (.long x0), .second, .val (.long x3), .second, .val (.int (0 : Int32)), .val (.int (1 : Int32))] [(.ref b1), (.int (1 : Int32))])) rfl rfl (hb hby dR_33)
  have hc36_14 : (1 : Int32) < (3 : Int32) := (by decide)
  obtain ⟨T15, X15, e15, st15⟩ := getF X13 hx hZ hown (host := "") (Or.inl (hw _ (List.mem_of_getElem? (i := 21) rfl))) Via.refl e13 F7 (g := (mkF m 44 #[.val (.ref b1), .val (.long x0), .second, .val (.long x3), .second, .val (.int (0 : Int32)), .val (.int (1 : Int32))] [(.ref b1), (.int (2 : Int32))])) rfl rfl (hb hby dR_44)
  have hc47_16 : (2 : Int32) < (3 : Int32) := (by decide)
  obtain ⟨T17, X17, e17, st17⟩ := getF X15 hx hZ hown (host := "") (Or.inl (hw _ (List.mem_of_getElem? (i := 14) rfl))) Via.refl e15 F8 (g := (mkF m 51 #[.val (.ref b1), .val (.long x0), .second, .val (.long x3), .second, .val (.int (0 : Int32)), .val (.int (1 : Int32))] [(.ref b1)])) rfl rfl (hb hby dR_51)
  have hi18 : ¬ (2 : Int32) < 0 ∧ (2 : Int32).toNatClampNeg < (16 : Int32).toNatClampNeg := by decide
  have ha18 : cl11.slots[(2 : Int32).toNatClampNeg]? = some (.long x2) := H11 _ (by rw [S11]; exact hi18.2)
  obtain ⟨T19, X19, e19, st19⟩ := getF X17 hx hZ hown (host := "") (Or.inl (hw _ (List.mem_of_getElem? (i := 14) rfl))) Via.refl e17 F8 (g := (mkF m 60 #[.val (.ref b1), .val (.long x0), .second, .val (.long x3), .second, .val (.int (0 : Int32)), .val (.int (1 : Int32))] [(.ref b1), (.long x2)])) rfl rfl (hb hby dR_60)
  have hi20 : ¬ (1 : Int32) < 0 ∧ (1 : Int32).toNatClampNeg < (16 : Int32).toNatClampNeg := by decide
  have ha20 : cl11.slots[(1 : Int32).toNatClampNeg]? = some (.long x1) := H11 _ (by rw [S11]; exact hi20.2)
  refine own_go (b := T19.setTop (mkF m 67 #[.val (.ref b1), .val (.long x0), .second, .val (.long x3), .second, .val (.int (0 : Int32)), .val (.int (1 : Int32))] [(.int (lcmpW x2 x1))])) (fun t k => ?_) ?_
  · show Steps p.tables e below (s₁.setTop (mkF m 0 #[.val (.ref b1), .unset, .unset, .unset, .unset, .unset, .unset] [])) _
    refine XS.aloadN X0.here hx rfl (hb hby dR_0) rfl rfl ?_
    show Steps p.tables e below (s₁.setTop (mkF m 1 #[.val (.ref b1), .unset, .unset, .unset, .unset, .unset, .unset] [(.ref b1)])) _
    refine st1 _ ?_
    show Steps p.tables e below (T1.setTop (mkF m 4 #[.val (.ref b1), .unset, .unset, .unset, .unset, .unset, .unset] [(.ref q1)])) _
    refine XS.iconst X1.here hx rfl (hb hby dR_4) ?_
    show Steps p.tables e below (T1.setTop (mkF m 5 #[.val (.ref b1), .unset, .unset, .unset, .unset, .unset, .unset] [(.int (0 : Int32)), (.ref q1)])) _
    refine X1.laload hx (j := (0 : Int32)) (v := (.long x0)) (by rw [e1]; exact Ar2.1) (State.isArrayOf_alike hZ.alike Ar2.2.1) Ar2.2.2 (own_hin S2 hi3) ha3 (g := (mkF m 5 #[.val (.ref b1), .unset, .unset, .unset, .unset, .unset, .unset] [(.int (0 : Int32)), (.ref q1)])) rfl rfl (hb hby dR_5) _ ?_
    show Steps p.tables e below (T1.setTop (mkF m 6 #[.val (.ref b1), .unset, .unset, .unset, .unset, .unset, .unset] [(.long x0)])) _
    refine XS.lstoreN X1.here hx rfl (hb hby dR_6) rfl (l' := #[.val (.ref b1), .val (.long x0), .second, .unset, .unset, .unset, .unset]) rfl ?_
    show Steps p.tables e below (T1.setTop (mkF m 7 #[.val (.ref b1), .val (.long x0), .second, .unset, .unset, .unset, .unset] [])) _
    refine XS.aloadN X1.here hx rfl (hb hby dR_7) rfl rfl ?_
    show Steps p.tables e below (T1.setTop (mkF m 8 #[.val (.ref b1), .val (.long x0), .second, .unset, .unset, .unset, .unset] [(.ref b1)])) _
    refine st4 _ ?_
    show Steps p.tables e below (T4.setTop (mkF m 11 #[.val (.ref b1), .val (.long x0), .second, .unset, .unset, .unset, .unset] [(.ref q1)])) _
    refine XS.aloadN X4.here hx rfl (hb hby dR_11) rfl rfl ?_
    show Steps p.tables e below (T4.setTop (mkF m 12 #[.val (.ref b1), .val (.long x0), .second, .unset, .unset, .unset, .unset] [(.ref b1), (.ref q1)])) _
    refine XS.dup X4.here hx rfl (hb hby dR_12) rfl rfl ?_
    show Steps p.tables e below (T4.setTop (mkF m 13 #[.val (.ref b1), .val (.long x0), .second, .unset, .unset, .unset, .unset] [(.ref b1), (.ref b1), (.ref q1)])) _
    refine st5 _ ?_
    show Steps p.tables e below (T5.setTop (mkF m 16 #[.val (.ref b1), .val (.long x0), .second, .unset, .unset, .unset, .unset] [(.int (4 : Int32)), (.ref b1), (.ref q1)])) _
    refine XS.iconst X5.here hx rfl (hb hby dR_16) ?_
    show Steps p.tables e below (T5.setTop (mkF m 17 #[.val (.ref b1), .val (.long x0), .second, .unset, .unset, .unset, .unset] [(.int (1 : Int32)), (.int (4 : Int32)), (.ref b1), (.ref q1)])) _
    refine XS.isub X5.here hx rfl (hb hby dR_17) rfl ?_
    show Steps p.tables e below (T5.setTop (mkF m 18 #[.val (.ref b1), .val (.long x0), .second, .unset, .unset, .unset, .unset] [(.int (3 : Int32)), (.ref b1), (.ref q1)])) _
    refine XS.dupX1 X5.here hx rfl (hb hby dR_18) rfl rfl rfl ?_
    show Steps p.tables e below (T5.setTop (mkF m 19 #[.val (.ref b1), .val (.long x0), .second, .unset, .unset, .unset, .unset] [(.int (3 : Int32)), (.ref b1), (.int (3 : Int32)), (.ref q1)])) _
    refine st6 _ ?_
    show Steps p.tables e below (T6.setTop (mkF m 22 #[.val (.ref b1), .val (.long x0), .second, .unset, .unset, .unset, .unset] [(.int (3 : Int32)), (.ref q1)])) _
    refine X6.laload hx (j := (3 : Int32)) (v := (.long x3)) (by rw [e6]; exact Ar11.1) (State.isArrayOf_alike hZ.alike Ar11.2.1) Ar11.2.2 (own_hin S11 hi12) ha12 (g := (mkF m 22 #[.val (.ref b1), .val (.long x0), .second, .unset, .unset, .unset, .unset] [(.int (3 : Int32)), (.ref q1)])) rfl rfl (hb hby dR_22) _ ?_
    show Steps p.tables e below (T6.setTop (mkF m 23 #[.val (.ref b1), .val (.long x0), .second, .unset, .unset, .unset, .unset] [(.long x3)])) _
    refine XS.lstoreN X6.here hx rfl (hb hby dR_23) rfl (l' := #[.val (.ref b1), .val (.long x0), .second, .val (.long x3), .second, .unset, .unset]) rfl ?_
    show Steps p.tables e below (T6.setTop (mkF m 24 #[.val (.ref b1), .val (.long x0), .second, .val (.long x3), .second, .unset, .unset] [])) _
    refine XS.iconst X6.here hx rfl (hb hby dR_24) ?_
    show Steps p.tables e below (T6.setTop (mkF m 25 #[.val (.ref b1), .val (.long x0), .second, .val (.long x3), .second, .unset, .unset] [(.int (0 : Int32))])) _
    refine XS.istore X6.here hx rfl (hb hby dR_25) rfl (l' := #[.val (.ref b1), .val (.long x0), .second, .val (.long x3), .second, .val (.int (0 : Int32)), .unset]) rfl ?_
    show Steps p.tables e below (T6.setTop (mkF m 27 #[.val (.ref b1), .val (.long x0), .second, .val (.long x3), .second, .val (.int (0 : Int32)), .unset] [])) _
    refine XS.iconst X6.here hx rfl (hb hby dR_27) ?_
    show Steps p.tables e below (T6.setTop (mkF m 28 #[.val (.ref b1), .val (.long x0), .second, .val (.long x3), .second, .val (.int (0 : Int32)), .unset] [(.int (1 : Int32))])) _
    refine XS.istore X6.here hx rfl (hb hby dR_28) rfl (l' := #[.val (.ref b1), .val (.long x0), .second, .val (.long x3), .second, .val (.int (0 : Int32)), .val (.int (1 : Int32))]) rfl ?_
    show Steps p.tables e below (T6.setTop (mkF m 30 #[.val (.ref b1), .val (.long x0), .second, .val (.long x3), .second, .val (.int (0 : Int32)), .val (.int (1 : Int32))] [])) _
    refine XS.iload X6.here hx rfl (hb hby dR_30) rfl ?_
    show Steps p.tables e below (T6.setTop (mkF m 32 #[.val (.ref b1), .val (.long x0), .second, .val (.long x3), .second, .val (.int (0 : Int32)), .val (.int (1 : Int32))] [(.int (1 : Int32))])) _
    refine XS.aloadN X6.here hx rfl (hb hby dR_32) rfl rfl ?_
    show Steps p.tables e below (T6.setTop (mkF m 33 #[.val (.ref b1), .val (.long x0), .second, .val (.long x3), .second, .val (.int (0 : Int32)), .val (.int (1 : Int32))] [(.ref b1), (.int (1 : Int32))])) _
    refine st13 _ ?_
    show Steps p.tables e below (T13.setTop (mkF m 36 #[.val (.ref b1), .val (.long x0), .second, .val (.long x3), .second, .val (.int (0 : Int32)), .val (.int (1 : Int32))] [(.int (3 : Int32)), (.int (1 : Int32))])) _
    refine XS.icmpNo X13.here hx rfl (hb hby dR_36) rfl (tlt hc36_14).2.1 ?_
    show Steps p.tables e below (T13.setTop (mkF m 39 #[.val (.ref b1), .val (.long x0), .second, .val (.long x3), .second, .val (.int (0 : Int32)), .val (.int (1 : Int32))] [])) _
    refine XS.iload X13.here hx rfl (hb hby dR_39) rfl ?_
    show Steps p.tables e below (T13.setTop (mkF m 41 #[.val (.ref b1), .val (.long x0), .second, .val (.long x3), .second, .val (.int (0 : Int32)), .val (.int (1 : Int32))] [(.int (1 : Int32))])) _
    refine XS.iconst X13.here hx rfl (hb hby dR_41) ?_
    show Steps p.tables e below (T13.setTop (mkF m 42 #[.val (.ref b1), .val (.long x0), .second, .val (.long x3), .second, .val (.int (0 : Int32)), .val (.int (1 : Int32))] [(.int (1 : Int32)), (.int (1 : Int32))])) _
    refine XS.iadd X13.here hx rfl (hb hby dR_42) rfl ?_
    show Steps p.tables e below (T13.setTop (mkF m 43 #[.val (.ref b1), .val (.long x0), .second, .val (.long x3), .second, .val (.int (0 : Int32)), .val (.int (1 : Int32))] [(.int (2 : Int32))])) _
    refine XS.aloadN X13.here hx rfl (hb hby dR_43) rfl rfl ?_
    show Steps p.tables e below (T13.setTop (mkF m 44 #[.val (.ref b1), .val (.long x0), .second, .val (.long x3), .second, .val (.int (0 : Int32)), .val (.int (1 : Int32))] [(.ref b1), (.int (2 : Int32))])) _
    refine st15 _ ?_
    show Steps p.tables e below (T15.setTop (mkF m 47 #[.val (.ref b1), .val (.long x0), .second, .val (.long x3), .second, .val (.int (0 : Int32)), .val (.int (1 : Int32))] [(.int (3 : Int32)), (.int (2 : Int32))])) _
    refine XS.icmpNo X15.here hx rfl (hb hby dR_47) rfl (tlt hc47_16).2.1 ?_
    show Steps p.tables e below (T15.setTop (mkF m 50 #[.val (.ref b1), .val (.long x0), .second, .val (.long x3), .second, .val (.int (0 : Int32)), .val (.int (1 : Int32))] [])) _
    refine XS.aloadN X15.here hx rfl (hb hby dR_50) rfl rfl ?_
    show Steps p.tables e below (T15.setTop (mkF m 51 #[.val (.ref b1), .val (.long x0), .second, .val (.long x3), .second, .val (.int (0 : Int32)), .val (.int (1 : Int32))] [(.ref b1)])) _
    refine st17 _ ?_
    show Steps p.tables e below (T17.setTop (mkF m 54 #[.val (.ref b1), .val (.long x0), .second, .val (.long x3), .second, .val (.int (0 : Int32)), .val (.int (1 : Int32))] [(.ref q1)])) _
    refine XS.iload X17.here hx rfl (hb hby dR_54) rfl ?_
    show Steps p.tables e below (T17.setTop (mkF m 56 #[.val (.ref b1), .val (.long x0), .second, .val (.long x3), .second, .val (.int (0 : Int32)), .val (.int (1 : Int32))] [(.int (1 : Int32)), (.ref q1)])) _
    refine XS.iconst X17.here hx rfl (hb hby dR_56) ?_
    show Steps p.tables e below (T17.setTop (mkF m 57 #[.val (.ref b1), .val (.long x0), .second, .val (.long x3), .second, .val (.int (0 : Int32)), .val (.int (1 : Int32))] [(.int (1 : Int32)), (.int (1 : Int32)), (.ref q1)])) _
    refine XS.iadd X17.here hx rfl (hb hby dR_57) rfl ?_
    show Steps p.tables e below (T17.setTop (mkF m 58 #[.val (.ref b1), .val (.long x0), .second, .val (.long x3), .second, .val (.int (0 : Int32)), .val (.int (1 : Int32))] [(.int (2 : Int32)), (.ref q1)])) _
    refine X17.laload hx (j := (2 : Int32)) (v := (.long x2)) (by rw [e17]; exact Ar11.1) (State.isArrayOf_alike hZ.alike Ar11.2.1) Ar11.2.2 (own_hin S11 hi18) ha18 (g := (mkF m 58 #[.val (.ref b1), .val (.long x0), .second, .val (.long x3), .second, .val (.int (0 : Int32)), .val (.int (1 : Int32))] [(.int (2 : Int32)), (.ref q1)])) rfl rfl (hb hby dR_58) _ ?_
    show Steps p.tables e below (T17.setTop (mkF m 59 #[.val (.ref b1), .val (.long x0), .second, .val (.long x3), .second, .val (.int (0 : Int32)), .val (.int (1 : Int32))] [(.long x2)])) _
    refine XS.aloadN X17.here hx rfl (hb hby dR_59) rfl rfl ?_
    show Steps p.tables e below (T17.setTop (mkF m 60 #[.val (.ref b1), .val (.long x0), .second, .val (.long x3), .second, .val (.int (0 : Int32)), .val (.int (1 : Int32))] [(.ref b1), (.long x2)])) _
    refine st19 _ ?_
    show Steps p.tables e below (T19.setTop (mkF m 63 #[.val (.ref b1), .val (.long x0), .second, .val (.long x3), .second, .val (.int (0 : Int32)), .val (.int (1 : Int32))] [(.ref q1), (.long x2)])) _
    refine XS.iload X19.here hx rfl (hb hby dR_63) rfl ?_
    show Steps p.tables e below (T19.setTop (mkF m 65 #[.val (.ref b1), .val (.long x0), .second, .val (.long x3), .second, .val (.int (0 : Int32)), .val (.int (1 : Int32))] [(.int (1 : Int32)), (.ref q1), (.long x2)])) _
    refine X19.laload hx (j := (1 : Int32)) (v := (.long x1)) (by rw [e19]; exact Ar11.1) (State.isArrayOf_alike hZ.alike Ar11.2.1) Ar11.2.2 (own_hin S11 hi20) ha20 (g := (mkF m 65 #[.val (.ref b1), .val (.long x0), .second, .val (.long x3), .second, .val (.int (0 : Int32)), .val (.int (1 : Int32))] [(.int (1 : Int32)), (.ref q1), (.long x2)])) rfl rfl (hb hby dR_65) _ ?_
    show Steps p.tables e below (T19.setTop (mkF m 66 #[.val (.ref b1), .val (.long x0), .second, .val (.long x3), .second, .val (.int (0 : Int32)), .val (.int (1 : Int32))] [(.long x1), (.long x2)])) _
    refine XS.lcmp X19.here hx rfl (hb hby dR_66) rfl ?_
    show Steps p.tables e below (T19.setTop (mkF m 67 #[.val (.ref b1), .val (.long x0), .second, .val (.long x3), .second, .val (.int (0 : Int32)), .val (.int (1 : Int32))] [(.int (lcmpW x2 x1))])) _
    exact k
  by_cases hc67 : x2 < x1
  · obtain ⟨T21, X21, e21, st21⟩ := getF X19 hx hZ hown (host := "") (Or.inl (hw _ (List.mem_of_getElem? (i := 14) rfl))) Via.refl e19 F8 (g := (mkF m 74 #[.val (.ref b1), .val (.long x0), .second, .val (.long x3), .second, .val (.int (0 : Int32)), .val (.int (2 : Int32))] [(.ref b1)])) rfl rfl (hb hby dR_74)
    have hi22 : ¬ (2 : Int32) < 0 ∧ (2 : Int32).toNatClampNeg < (16 : Int32).toNatClampNeg := by decide
    have ha22 : cl11.slots[(2 : Int32).toNatClampNeg]? = some (.long x2) := H11 _ (by rw [S11]; exact hi22.2)
    refine own_go (b := T21.setTop (mkF m 82 #[.val (.ref b1), .val (.long x0), .second, .val (.long x3), .second, .val (.int (0 : Int32)), .val (.int (2 : Int32))] [(.int (lcmpW x2 x3))])) (fun t k => ?_) ?_
    · show Steps p.tables e below (T19.setTop (mkF m 67 #[.val (.ref b1), .val (.long x0), .second, .val (.long x3), .second, .val (.int (0 : Int32)), .val (.int (1 : Int32))] [(.int (lcmpW x2 x1))])) _
      refine XS.ifNo X19.here hx rfl (hb hby dR_67) rfl ((if0 _ _).trans (tlt ((lw_lt x2 x1).mpr hc67)).2.1) ?_
      show Steps p.tables e below (T19.setTop (mkF m 70 #[.val (.ref b1), .val (.long x0), .second, .val (.long x3), .second, .val (.int (0 : Int32)), .val (.int (1 : Int32))] [])) _
      refine XS.iinc X19.here hx rfl (hb hby dR_70) rfl (l' := #[.val (.ref b1), .val (.long x0), .second, .val (.long x3), .second, .val (.int (0 : Int32)), .val (.int (2 : Int32))]) rfl ?_
      show Steps p.tables e below (T19.setTop (mkF m 73 #[.val (.ref b1), .val (.long x0), .second, .val (.long x3), .second, .val (.int (0 : Int32)), .val (.int (2 : Int32))] [])) _
      refine XS.aloadN X19.here hx rfl (hb hby dR_73) rfl rfl ?_
      show Steps p.tables e below (T19.setTop (mkF m 74 #[.val (.ref b1), .val (.long x0), .second, .val (.long x3), .second, .val (.int (0 : Int32)), .val (.int (2 : Int32))] [(.ref b1)])) _
      refine st21 _ ?_
      show Steps p.tables e below (T21.setTop (mkF m 77 #[.val (.ref b1), .val (.long x0), .second, .val (.long x3), .second, .val (.int (0 : Int32)), .val (.int (2 : Int32))] [(.ref q1)])) _
      refine XS.iload X21.here hx rfl (hb hby dR_77) rfl ?_
      show Steps p.tables e below (T21.setTop (mkF m 79 #[.val (.ref b1), .val (.long x0), .second, .val (.long x3), .second, .val (.int (0 : Int32)), .val (.int (2 : Int32))] [(.int (2 : Int32)), (.ref q1)])) _
      refine X21.laload hx (j := (2 : Int32)) (v := (.long x2)) (by rw [e21]; exact Ar11.1) (State.isArrayOf_alike hZ.alike Ar11.2.1) Ar11.2.2 (own_hin S11 hi22) ha22 (g := (mkF m 79 #[.val (.ref b1), .val (.long x0), .second, .val (.long x3), .second, .val (.int (0 : Int32)), .val (.int (2 : Int32))] [(.int (2 : Int32)), (.ref q1)])) rfl rfl (hb hby dR_79) _ ?_
      show Steps p.tables e below (T21.setTop (mkF m 80 #[.val (.ref b1), .val (.long x0), .second, .val (.long x3), .second, .val (.int (0 : Int32)), .val (.int (2 : Int32))] [(.long x2)])) _
      refine XS.lloadN X21.here hx rfl (hb hby dR_80) rfl ?_
      show Steps p.tables e below (T21.setTop (mkF m 81 #[.val (.ref b1), .val (.long x0), .second, .val (.long x3), .second, .val (.int (0 : Int32)), .val (.int (2 : Int32))] [(.long x3), (.long x2)])) _
      refine XS.lcmp X21.here hx rfl (hb hby dR_81) rfl ?_
      show Steps p.tables e below (T21.setTop (mkF m 82 #[.val (.ref b1), .val (.long x0), .second, .val (.long x3), .second, .val (.int (0 : Int32)), .val (.int (2 : Int32))] [(.int (lcmpW x2 x3))])) _
      exact k
    by_cases hc82 : x2 < x3
    · obtain ⟨T23, X23, e23, st23⟩ := getF X21 hx hZ hown (host := "") (Or.inl (hw _ (List.mem_of_getElem? (i := 14) rfl))) Via.refl e21 F8 (g := (mkF m 89 #[.val (.ref b1), .val (.long x0), .second, .val (.long x3), .second, .val (.int (0 : Int32)), .val (.int (2 : Int32))] [(.ref b1)])) rfl rfl (hb hby dR_89)
      obtain ⟨T24, X24, e24, st24⟩ := getF X23 hx hZ hown (host := "") (Or.inl (hw _ (List.mem_of_getElem? (i := 14) rfl))) Via.refl e23 F8 (g := (mkF m 95 #[.val (.ref b1), .val (.long x0), .second, .val (.long x3), .second, .val (.int (0 : Int32)), .val (.int (2 : Int32))] [(.ref b1), (.int (0 : Int32)), (.ref q1)])) rfl rfl (hb hby dR_95)
      have hi25 : ¬ (2 : Int32) < 0 ∧ (2 : Int32).toNatClampNeg < (16 : Int32).toNatClampNeg := by decide
      have ha25 : cl11.slots[(2 : Int32).toNatClampNeg]? = some (.long x2) := H11 _ (by rw [S11]; exact hi25.2)
      obtain ⟨T26, h26, X26, e26, W26, st26⟩ := stJ X24 hx hZ e24 Ar11 (j := (0 : Int32)) (by rw [S11]; decide) (g := (mkF m 101 #[.val (.ref b1), .val (.long x0), .second, .val (.long x3), .second, .val (.int (0 : Int32)), .val (.int (2 : Int32))] [(.long x2), (.int (0 : Int32)), (.ref q1)])) rfl rfl (hb hby dR_101)
      have N26 := Fr.snoc X26 N6 lo_q1
      obtain ⟨lc26, X26, N26⟩ := own_lc X26 N26
      have V27 : Arv Z h26 q1 k1 .long (16 : Int32) [(.long x2), (.long x1), (.long x2), (.long x3), (.long x4), (.long x5), (.long (0 : Int64)), (.long (0 : Int64)), (.long (0 : Int64)), (.long (0 : Int64)), (.long (0 : Int64)), (.long (0 : Int64)), (.long (0 : Int64)), (.long (0 : Int64)), (.long (0 : Int64)), (.long (0 : Int64))] (.long (0 : Int64)) := Arv.set Ar11 q11 S11 M11 H11 U11 rfl W26 0 rfl (by show 0 < 16; decide)
      have K26 := K6.wr W26 (Or.inl (List.mem_of_getElem? (i := 1) rfl))
      have F28 := F8.other W26 (Or.inl (Nat.ne_of_lt lt_q))
      have F29 := F7.other W26 (Or.inl (Nat.ne_of_lt lt_q))
      have E30 := E9.wr W26
      have Z26 : n0 ≤ h26.size := by rw [W26.size]; exact Z6
      obtain ⟨T31, X31, e31, st31⟩ := getF X26 hx hZ hown (host := "") (Or.inl (hw _ (List.mem_of_getElem? (i := 21) rfl))) Via.refl e26 F29 (g := (mkF m 33 #[.val (.ref b1), .val (.long x0), .second, .val (.long x3), .second, .val (.int (2 : Int32)), .val (.int (5 : Int32))] [(.ref b1), (.int (5 : Int32))])) rfl rfl (hb hby dR_33)
      have hc36_32 : ¬ ((5 : Int32) < (3 : Int32)) := (by decide)
      obtain ⟨T33, X33, e33, st33⟩ := getF X31 hx hZ hown (host := "") (Or.inl (hw _ (List.mem_of_getElem? (i := 14) rfl))) Via.refl e31 F28 (g := (mkF m 118 #[.val (.ref b1), .val (.long x0), .second, .val (.long x3), .second, .val (.int (2 : Int32)), .val (.int (5 : Int32))] [(.ref b1)])) rfl rfl (hb hby dR_118)
      obtain ⟨cl34, Ar34, q34, S34, M34, H34, U34⟩ := id V27
      obtain ⟨T35, h35, X35, e35, W35, st35⟩ := stJ X33 hx hZ e33 Ar34 (j := (2 : Int32)) (by rw [S34]; decide) (g := (mkF m 124 #[.val (.ref b1), .val (.long x0), .second, .val (.long x3), .second, .val (.int (2 : Int32)), .val (.int (5 : Int32))] [(.long x3), (.int (2 : Int32)), (.ref q1)])) rfl rfl (hb hby dR_124)
      have N35 := Fr.snoc X35 N26 lo_q1
      obtain ⟨lc35, X35, N35⟩ := own_lc X35 N35
      have V36 : Arv Z h35 q1 k1 .long (16 : Int32) [(.long x2), (.long x1), (.long x3), (.long x3), (.long x4), (.long x5), (.long (0 : Int64)), (.long (0 : Int64)), (.long (0 : Int64)), (.long (0 : Int64)), (.long (0 : Int64)), (.long (0 : Int64)), (.long (0 : Int64)), (.long (0 : Int64)), (.long (0 : Int64)), (.long (0 : Int64))] (.long (0 : Int64)) := Arv.set Ar34 q34 S34 M34 H34 U34 rfl W35 2 rfl (by show 2 < 16; decide)
      have K35 := K26.wr W35 (Or.inl (List.mem_of_getElem? (i := 1) rfl))
      have F37 := F28.other W35 (Or.inl (Nat.ne_of_lt lt_q))
      have F38 := F29.other W35 (Or.inl (Nat.ne_of_lt lt_q))
      have E39 := E30.wr W35
      have Z35 : n0 ≤ h35.size := by rw [W35.size]; exact Z26
      refine own_end X35 Bd.notSynchronized (v := some (.long x0)) (fun h => by rw [Bd.returns] at h; cases h) (fun fs hr => ?_) e35 ?_ (by decide) (by decide)
      · show Steps p.tables e below (T21.setTop (mkF m 82 #[.val (.ref b1), .val (.long x0), .second, .val (.long x3), .second, .val (.int (0 : Int32)), .val (.int (2 : Int32))] [(.int (lcmpW x2 x3))])) _
        refine XS.ifYes X21.here hx rfl (pc0 := 82) (pc' := 88) rfl (hb hby dR_82) rfl ((if0 _ _).trans (tlt ((lw_lt x2 x3).mpr hc82)).1) (by decide) (by decide) ?_
        show Steps p.tables e below (T21.setTop (mkF m 88 #[.val (.ref b1), .val (.long x0), .second, .val (.long x3), .second, .val (.int (0 : Int32)), .val (.int (2 : Int32))] [])) _
        refine XS.aloadN X21.here hx rfl (hb hby dR_88) rfl rfl ?_
        show Steps p.tables e below (T21.setTop (mkF m 89 #[.val (.ref b1), .val (.long x0), .second, .val (.long x3), .second, .val (.int (0 : Int32)), .val (.int (2 : Int32))] [(.ref b1)])) _
        refine st23 _ ?_
        show Steps p.tables e below (T23.setTop (mkF m 92 #[.val (.ref b1), .val (.long x0), .second, .val (.long x3), .second, .val (.int (0 : Int32)), .val (.int (2 : Int32))] [(.ref q1)])) _
        refine XS.iload X23.here hx rfl (hb hby dR_92) rfl ?_
        show Steps p.tables e below (T23.setTop (mkF m 94 #[.val (.ref b1), .val (.long x0), .second, .val (.long x3), .second, .val (.int (0 : Int32)), .val (.int (2 : Int32))] [(.int (0 : Int32)), (.ref q1)])) _
        refine XS.aloadN X23.here hx rfl (hb hby dR_94) rfl rfl ?_
        show Steps p.tables e below (T23.setTop (mkF m 95 #[.val (.ref b1), .val (.long x0), .second, .val (.long x3), .second, .val (.int (0 : Int32)), .val (.int (2 : Int32))] [(.ref b1), (.int (0 : Int32)), (.ref q1)])) _
        refine st24 _ ?_
        show Steps p.tables e below (T24.setTop (mkF m 98 #[.val (.ref b1), .val (.long x0), .second, .val (.long x3), .second, .val (.int (0 : Int32)), .val (.int (2 : Int32))] [(.ref q1), (.int (0 : Int32)), (.ref q1)])) _
        refine XS.iload X24.here hx rfl (hb hby dR_98) rfl ?_
        show Steps p.tables e below (T24.setTop (mkF m 100 #[.val (.ref b1), .val (.long x0), .second, .val (.long x3), .second, .val (.int (0 : Int32)), .val (.int (2 : Int32))] [(.int (2 : Int32)), (.ref q1), (.int (0 : Int32)), (.ref q1)])) _
        refine X24.laload hx (j := (2 : Int32)) (v := (.long x2)) (by rw [e24]; exact Ar11.1) (State.isArrayOf_alike hZ.alike Ar11.2.1) Ar11.2.2 (own_hin S11 hi25) ha25 (g := (mkF m 100 #[.val (.ref b1), .val (.long x0), .second, .val (.long x3), .second, .val (.int (0 : Int32)), .val (.int (2 : Int32))] [(.int (2 : Int32)), (.ref q1), (.int (0 : Int32)), (.ref q1)])) rfl rfl (hb hby dR_100) _ ?_
        show Steps p.tables e below (T24.setTop (mkF m 101 #[.val (.ref b1), .val (.long x0), .second, .val (.long x3), .second, .val (.int (0 : Int32)), .val (.int (2 : Int32))] [(.long x2), (.int (0 : Int32)), (.ref q1)])) _
        refine st26 _ ?_
        show Steps p.tables e below (T26.setTop (mkF m 102 #[.val (.ref b1), .val (.long x0), .second, .val (.long x3), .second, .val (.int (0 : Int32)), .val (.int (2 : Int32))] [])) _
        refine XS.iload X26.here hx rfl (hb hby dR_102) rfl ?_
        show Steps p.tables e below (T26.setTop (mkF m 104 #[.val (.ref b1), .val (.long x0), .second, .val (.long x3), .second, .val (.int (0 : Int32)), .val (.int (2 : Int32))] [(.int (2 : Int32))])) _
        refine XS.istore X26.here hx rfl (hb hby dR_104) rfl (l' := #[.val (.ref b1), .val (.long x0), .second, .val (.long x3), .second, .val (.int (2 : Int32)), .val (.int (2 : Int32))]) rfl ?_
        show Steps p.tables e below (T26.setTop (mkF m 106 #[.val (.ref b1), .val (.long x0), .second, .val (.long x3), .second, .val (.int (2 : Int32)), .val (.int (2 : Int32))] [])) _
        refine XS.iconst X26.here hx rfl (hb hby dR_106) ?_
        show Steps p.tables e below (T26.setTop (mkF m 107 #[.val (.ref b1), .val (.long x0), .second, .val (.long x3), .second, .val (.int (2 : Int32)), .val (.int (2 : Int32))] [(.int (2 : Int32))])) _
        refine XS.iload X26.here hx rfl (hb hby dR_107) rfl ?_
        show Steps p.tables e below (T26.setTop (mkF m 109 #[.val (.ref b1), .val (.long x0), .second, .val (.long x3), .second, .val (.int (2 : Int32)), .val (.int (2 : Int32))] [(.int (2 : Int32)), (.int (2 : Int32))])) _
        refine XS.imul X26.here hx rfl (hb hby dR_109) rfl ?_
        show Steps p.tables e below (T26.setTop (mkF m 110 #[.val (.ref b1), .val (.long x0), .second, .val (.long x3), .second, .val (.int (2 : Int32)), .val (.int (2 : Int32))] [(.int (4 : Int32))])) _
        refine XS.iconst X26.here hx rfl (hb hby dR_110) ?_
        show Steps p.tables e below (T26.setTop (mkF m 111 #[.val (.ref b1), .val (.long x0), .second, .val (.long x3), .second, .val (.int (2 : Int32)), .val (.int (2 : Int32))] [(.int (1 : Int32)), (.int (4 : Int32))])) _
        refine XS.iadd X26.here hx rfl (hb hby dR_111) rfl ?_
        show Steps p.tables e below (T26.setTop (mkF m 112 #[.val (.ref b1), .val (.long x0), .second, .val (.long x3), .second, .val (.int (2 : Int32)), .val (.int (2 : Int32))] [(.int (5 : Int32))])) _
        refine XS.istore X26.here hx rfl (hb hby dR_112) rfl (l' := #[.val (.ref b1), .val (.long x0), .second, .val (.long x3), .second, .val (.int (2 : Int32)), .val (.int (5 : Int32))]) rfl ?_
        show Steps p.tables e below (T26.setTop (mkF m 114 #[.val (.ref b1), .val (.long x0), .second, .val (.long x3), .second, .val (.int (2 : Int32)), .val (.int (5 : Int32))] [])) _
        refine XS.goto X26.here hx rfl (pc0 := 114) (pc' := 30) rfl (hb hby dR_114) (by decide) (by decide) ?_
        show Steps p.tables e below (T26.setTop (mkF m 30 #[.val (.ref b1), .val (.long x0), .second, .val (.long x3), .second, .val (.int (2 : Int32)), .val (.int (5 : Int32))] [])) _
        refine XS.iload X26.here hx rfl (hb hby dR_30) rfl ?_
        show Steps p.tables e below (T26.setTop (mkF m 32 #[.val (.ref b1), .val (.long x0), .second, .val (.long x3), .second, .val (.int (2 : Int32)), .val (.int (5 : Int32))] [(.int (5 : Int32))])) _
        refine XS.aloadN X26.here hx rfl (hb hby dR_32) rfl rfl ?_
        show Steps p.tables e below (T26.setTop (mkF m 33 #[.val (.ref b1), .val (.long x0), .second, .val (.long x3), .second, .val (.int (2 : Int32)), .val (.int (5 : Int32))] [(.ref b1), (.int (5 : Int32))])) _
        refine st31 _ ?_
        show Steps p.tables e below (T31.setTop (mkF m 36 #[.val (.ref b1), .val (.long x0), .second, .val (.long x3), .second, .val (.int (2 : Int32)), .val (.int (5 : Int32))] [(.int (3 : Int32)), (.int (5 : Int32))])) _
        refine XS.icmpYes X31.here hx rfl (pc0 := 36) (pc' := 117) rfl (hb hby dR_36) rfl (flt hc36_32).2.1 (by decide) (by decide) ?_
        show Steps p.tables e below (T31.setTop (mkF m 117 #[.val (.ref b1), .val (.long x0), .second, .val (.long x3), .second, .val (.int (2 : Int32)), .val (.int (5 : Int32))] [])) _
        refine XS.aloadN X31.here hx rfl (hb hby dR_117) rfl rfl ?_
        show Steps p.tables e below (T31.setTop (mkF m 118 #[.val (.ref b1), .val (.long x0), .second, .val (.long x3), .second, .val (.int (2 : Int32)), .val (.int (5 : Int32))] [(.ref b1)])) _
        refine st33 _ ?_
        show Steps p.tables e below (T33.setTop (mkF m 121 #[.val (.ref b1), .val (.long x0), .second, .val (.long x3), .second, .val (.int (2 : Int32)), .val (.int (5 : Int32))] [(.ref q1)])) _
        refine XS.iload X33.here hx rfl (hb hby dR_121) rfl ?_
        show Steps p.tables e below (T33.setTop (mkF m 123 #[.val (.ref b1), .val (.long x0), .second, .val (.long x3), .second, .val (.int (2 : Int32)), .val (.int (5 : Int32))] [(.int (2 : Int32)), (.ref q1)])) _
        refine XS.lloadN X33.here hx rfl (hb hby dR_123) rfl ?_
        show Steps p.tables e below (T33.setTop (mkF m 124 #[.val (.ref b1), .val (.long x0), .second, .val (.long x3), .second, .val (.int (2 : Int32)), .val (.int (5 : Int32))] [(.long x3), (.int (2 : Int32)), (.ref q1)])) _
        refine st35 _ ?_
        show Steps p.tables e below (T35.setTop (mkF m 125 #[.val (.ref b1), .val (.long x0), .second, .val (.long x3), .second, .val (.int (2 : Int32)), .val (.int (5 : Int32))] [])) _
        refine XS.lloadN X35.here hx rfl (hb hby dR_125) rfl ?_
        show Steps p.tables e below (T35.setTop (mkF m 126 #[.val (.ref b1), .val (.long x0), .second, .val (.long x3), .second, .val (.int (2 : Int32)), .val (.int (5 : Int32))] [(.long x0)])) _
        exact X35.lreturnOut hx Bd.returns (hb hby dR_126) hr
      · exact ⟨rfl, N35, K35, E39, F37, F38, _, _, _, _, _, _, by rw [own_rem_4, if_pos hc67, if_pos hc82], V36⟩
    · obtain ⟨T40, X40, e40, st40⟩ := getF X21 hx hZ hown (host := "") (Or.inl (hw _ (List.mem_of_getElem? (i := 14) rfl))) Via.refl e21 F8 (g := (mkF m 118 #[.val (.ref b1), .val (.long x0), .second, .val (.long x3), .second, .val (.int (0 : Int32)), .val (.int (2 : Int32))] [(.ref b1)])) rfl rfl (hb hby dR_118)
      obtain ⟨T41, h41, X41, e41, W41, st41⟩ := stJ X40 hx hZ e40 Ar11 (j := (0 : Int32)) (by rw [S11]; decide) (g := (mkF m 124 #[.val (.ref b1), .val (.long x0), .second, .val (.long x3), .second, .val (.int (0 : Int32)), .val (.int (2 : Int32))] [(.long x3), (.int (0 : Int32)), (.ref q1)])) rfl rfl (hb hby dR_124)
      have N41 := Fr.snoc X41 N6 lo_q1
      obtain ⟨lc41, X41, N41⟩ := own_lc X41 N41
      have V42 : Arv Z h41 q1 k1 .long (16 : Int32) [(.long x3), (.long x1), (.long x2), (.long x3), (.long x4), (.long x5), (.long (0 : Int64)), (.long (0 : Int64)), (.long (0 : Int64)), (.long (0 : Int64)), (.long (0 : Int64)), (.long (0 : Int64)), (.long (0 : Int64)), (.long (0 : Int64)), (.long (0 : Int64)), (.long (0 : Int64))] (.long (0 : Int64)) := Arv.set Ar11 q11 S11 M11 H11 U11 rfl W41 0 rfl (by show 0 < 16; decide)
      have K41 := K6.wr W41 (Or.inl (List.mem_of_getElem? (i := 1) rfl))
      have F43 := F8.other W41 (Or.inl (Nat.ne_of_lt lt_q))
      have F44 := F7.other W41 (Or.inl (Nat.ne_of_lt lt_q))
      have E45 := E9.wr W41
      have Z41 : n0 ≤ h41.size := by rw [W41.size]; exact Z6
      refine own_end X41 Bd.notSynchronized (v := some (.long x0)) (fun h => by rw [Bd.returns] at h; cases h) (fun fs hr => ?_) e41 ?_ (by decide) (by decide)
      · show Steps p.tables e below (T21.setTop (mkF m 82 #[.val (.ref b1), .val (.long x0), .second, .val (.long x3), .second, .val (.int (0 : Int32)), .val (.int (2 : Int32))] [(.int (lcmpW x2 x3))])) _
        refine XS.ifNo X21.here hx rfl (hb hby dR_82) rfl ((if0 _ _).trans (flt (fun q => hc82 ((lw_lt x2 x3).mp q))).1) ?_
        show Steps p.tables e below (T21.setTop (mkF m 85 #[.val (.ref b1), .val (.long x0), .second, .val (.long x3), .second, .val (.int (0 : Int32)), .val (.int (2 : Int32))] [])) _
        refine XS.goto X21.here hx rfl (pc0 := 85) (pc' := 117) rfl (hb hby dR_85) (by decide) (by decide) ?_
        show Steps p.tables e below (T21.setTop (mkF m 117 #[.val (.ref b1), .val (.long x0), .second, .val (.long x3), .second, .val (.int (0 : Int32)), .val (.int (2 : Int32))] [])) _
        refine XS.aloadN X21.here hx rfl (hb hby dR_117) rfl rfl ?_
        show Steps p.tables e below (T21.setTop (mkF m 118 #[.val (.ref b1), .val (.long x0), .second, .val (.long x3), .second, .val (.int (0 : Int32)), .val (.int (2 : Int32))] [(.ref b1)])) _
        refine st40 _ ?_
        show Steps p.tables e below (T40.setTop (mkF m 121 #[.val (.ref b1), .val (.long x0), .second, .val (.long x3), .second, .val (.int (0 : Int32)), .val (.int (2 : Int32))] [(.ref q1)])) _
        refine XS.iload X40.here hx rfl (hb hby dR_121) rfl ?_
        show Steps p.tables e below (T40.setTop (mkF m 123 #[.val (.ref b1), .val (.long x0), .second, .val (.long x3), .second, .val (.int (0 : Int32)), .val (.int (2 : Int32))] [(.int (0 : Int32)), (.ref q1)])) _
        refine XS.lloadN X40.here hx rfl (hb hby dR_123) rfl ?_
        show Steps p.tables e below (T40.setTop (mkF m 124 #[.val (.ref b1), .val (.long x0), .second, .val (.long x3), .second, .val (.int (0 : Int32)), .val (.int (2 : Int32))] [(.long x3), (.int (0 : Int32)), (.ref q1)])) _
        refine st41 _ ?_
        show Steps p.tables e below (T41.setTop (mkF m 125 #[.val (.ref b1), .val (.long x0), .second, .val (.long x3), .second, .val (.int (0 : Int32)), .val (.int (2 : Int32))] [])) _
        refine XS.lloadN X41.here hx rfl (hb hby dR_125) rfl ?_
        show Steps p.tables e below (T41.setTop (mkF m 126 #[.val (.ref b1), .val (.long x0), .second, .val (.long x3), .second, .val (.int (0 : Int32)), .val (.int (2 : Int32))] [(.long x0)])) _
        exact X41.lreturnOut hx Bd.returns (hb hby dR_126) hr
      · exact ⟨rfl, N41, K41, E45, F43, F44, _, _, _, _, _, _, by rw [own_rem_4, if_pos hc67, if_neg hc82], V42⟩
  · obtain ⟨T46, X46, e46, st46⟩ := getF X19 hx hZ hown (host := "") (Or.inl (hw _ (List.mem_of_getElem? (i := 14) rfl))) Via.refl e19 F8 (g := (mkF m 74 #[.val (.ref b1), .val (.long x0), .second, .val (.long x3), .second, .val (.int (0 : Int32)), .val (.int (1 : Int32))] [(.ref b1)])) rfl rfl (hb hby dR_74)
    have hi47 : ¬ (1 : Int32) < 0 ∧ (1 : Int32).toNatClampNeg < (16 : Int32).toNatClampNeg := by decide
    have ha47 : cl11.slots[(1 : Int32).toNatClampNeg]? = some (.long x1) := H11 _ (by rw [S11]; exact hi47.2)
    refine own_go (b := T46.setTop (mkF m 82 #[.val (.ref b1), .val (.long x0), .second, .val (.long x3), .second, .val (.int (0 : Int32)), .val (.int (1 : Int32))] [(.int (lcmpW x1 x3))])) (fun t k => ?_) ?_
    · show Steps p.tables e below (T19.setTop (mkF m 67 #[.val (.ref b1), .val (.long x0), .second, .val (.long x3), .second, .val (.int (0 : Int32)), .val (.int (1 : Int32))] [(.int (lcmpW x2 x1))])) _
      refine XS.ifYes X19.here hx rfl (pc0 := 67) (pc' := 73) rfl (hb hby dR_67) rfl ((if0 _ _).trans (flt (fun q => hc67 ((lw_lt x2 x1).mp q))).2.1) (by decide) (by decide) ?_
      show Steps p.tables e below (T19.setTop (mkF m 73 #[.val (.ref b1), .val (.long x0), .second, .val (.long x3), .second, .val (.int (0 : Int32)), .val (.int (1 : Int32))] [])) _
      refine XS.aloadN X19.here hx rfl (hb hby dR_73) rfl rfl ?_
      show Steps p.tables e below (T19.setTop (mkF m 74 #[.val (.ref b1), .val (.long x0), .second, .val (.long x3), .second, .val (.int (0 : Int32)), .val (.int (1 : Int32))] [(.ref b1)])) _
      refine st46 _ ?_
      show Steps p.tables e below (T46.setTop (mkF m 77 #[.val (.ref b1), .val (.long x0), .second, .val (.long x3), .second, .val (.int (0 : Int32)), .val (.int (1 : Int32))] [(.ref q1)])) _
      refine XS.iload X46.here hx rfl (hb hby dR_77) rfl ?_
      show Steps p.tables e below (T46.setTop (mkF m 79 #[.val (.ref b1), .val (.long x0), .second, .val (.long x3), .second, .val (.int (0 : Int32)), .val (.int (1 : Int32))] [(.int (1 : Int32)), (.ref q1)])) _
      refine X46.laload hx (j := (1 : Int32)) (v := (.long x1)) (by rw [e46]; exact Ar11.1) (State.isArrayOf_alike hZ.alike Ar11.2.1) Ar11.2.2 (own_hin S11 hi47) ha47 (g := (mkF m 79 #[.val (.ref b1), .val (.long x0), .second, .val (.long x3), .second, .val (.int (0 : Int32)), .val (.int (1 : Int32))] [(.int (1 : Int32)), (.ref q1)])) rfl rfl (hb hby dR_79) _ ?_
      show Steps p.tables e below (T46.setTop (mkF m 80 #[.val (.ref b1), .val (.long x0), .second, .val (.long x3), .second, .val (.int (0 : Int32)), .val (.int (1 : Int32))] [(.long x1)])) _
      refine XS.lloadN X46.here hx rfl (hb hby dR_80) rfl ?_
      show Steps p.tables e below (T46.setTop (mkF m 81 #[.val (.ref b1), .val (.long x0), .second, .val (.long x3), .second, .val (.int (0 : Int32)), .val (.int (1 : Int32))] [(.long x3), (.long x1)])) _
      refine XS.lcmp X46.here hx rfl (hb hby dR_81) rfl ?_
      show Steps p.tables e below (T46.setTop (mkF m 82 #[.val (.ref b1), .val (.long x0), .second, .val (.long x3), .second, .val (.int (0 : Int32)), .val (.int (1 : Int32))] [(.int (lcmpW x1 x3))])) _
      exact k
    by_cases hc82 : x1 < x3
    · obtain ⟨T48, X48, e48, st48⟩ := getF X46 hx hZ hown (host := "") (Or.inl (hw _ (List.mem_of_getElem? (i := 14) rfl))) Via.refl e46 F8 (g := (mkF m 89 #[.val (.ref b1), .val (.long x0), .second, .val (.long x3), .second, .val (.int (0 : Int32)), .val (.int (1 : Int32))] [(.ref b1)])) rfl rfl (hb hby dR_89)
      obtain ⟨T49, X49, e49, st49⟩ := getF X48 hx hZ hown (host := "") (Or.inl (hw _ (List.mem_of_getElem? (i := 14) rfl))) Via.refl e48 F8 (g := (mkF m 95 #[.val (.ref b1), .val (.long x0), .second, .val (.long x3), .second, .val (.int (0 : Int32)), .val (.int (1 : Int32))] [(.ref b1), (.int (0 : Int32)), (.ref q1)])) rfl rfl (hb hby dR_95)
      have hi50 : ¬ (1 : Int32) < 0 ∧ (1 : Int32).toNatClampNeg < (16 : Int32).toNatClampNeg := by decide
      have ha50 : cl11.slots[(1 : Int32).toNatClampNeg]? = some (.long x1) := H11 _ (by rw [S11]; exact hi50.2)
      obtain ⟨T51, h51, X51, e51, W51, st51⟩ := stJ X49 hx hZ e49 Ar11 (j := (0 : Int32)) (by rw [S11]; decide) (g := (mkF m 101 #[.val (.ref b1), .val (.long x0), .second, .val (.long x3), .second, .val (.int (0 : Int32)), .val (.int (1 : Int32))] [(.long x1), (.int (0 : Int32)), (.ref q1)])) rfl rfl (hb hby dR_101)
      have N51 := Fr.snoc X51 N6 lo_q1
      obtain ⟨lc51, X51, N51⟩ := own_lc X51 N51
      have V52 : Arv Z h51 q1 k1 .long (16 : Int32) [(.long x1), (.long x1), (.long x2), (.long x3), (.long x4), (.long x5), (.long (0 : Int64)), (.long (0 : Int64)), (.long (0 : Int64)), (.long (0 : Int64)), (.long (0 : Int64)), (.long (0 : Int64)), (.long (0 : Int64)), (.long (0 : Int64)), (.long (0 : Int64)), (.long (0 : Int64))] (.long (0 : Int64)) := Arv.set Ar11 q11 S11 M11 H11 U11 rfl W51 0 rfl (by show 0 < 16; decide)
      have K51 := K6.wr W51 (Or.inl (List.mem_of_getElem? (i := 1) rfl))
      have F53 := F8.other W51 (Or.inl (Nat.ne_of_lt lt_q))
      have F54 := F7.other W51 (Or.inl (Nat.ne_of_lt lt_q))
      have E55 := E9.wr W51
      have Z51 : n0 ≤ h51.size := by rw [W51.size]; exact Z6
      obtain ⟨T56, X56, e56, st56⟩ := getF X51 hx hZ hown (host := "") (Or.inl (hw _ (List.mem_of_getElem? (i := 21) rfl))) Via.refl e51 F54 (g := (mkF m 33 #[.val (.ref b1), .val (.long x0), .second, .val (.long x3), .second, .val (.int (1 : Int32)), .val (.int (3 : Int32))] [(.ref b1), (.int (3 : Int32))])) rfl rfl (hb hby dR_33)
      have hc36_57 : ¬ ((3 : Int32) < (3 : Int32)) := (by decide)
      obtain ⟨T58, X58, e58, st58⟩ := getF X56 hx hZ hown (host := "") (Or.inl (hw _ (List.mem_of_getElem? (i := 14) rfl))) Via.refl e56 F53 (g := (mkF m 118 #[.val (.ref b1), .val (.long x0), .second, .val (.long x3), .second, .val (.int (1 : Int32)), .val (.int (3 : Int32))] [(.ref b1)])) rfl rfl (hb hby dR_118)
      obtain ⟨cl59, Ar59, q59, S59, M59, H59, U59⟩ := id V52
      obtain ⟨T60, h60, X60, e60, W60, st60⟩ := stJ X58 hx hZ e58 Ar59 (j := (1 : Int32)) (by rw [S59]; decide) (g := (mkF m 124 #[.val (.ref b1), .val (.long x0), .second, .val (.long x3), .second, .val (.int (1 : Int32)), .val (.int (3 : Int32))] [(.long x3), (.int (1 : Int32)), (.ref q1)])) rfl rfl (hb hby dR_124)
      have N60 := Fr.snoc X60 N51 lo_q1
      obtain ⟨lc60, X60, N60⟩ := own_lc X60 N60
      have V61 : Arv Z h60 q1 k1 .long (16 : Int32) [(.long x1), (.long x3), (.long x2), (.long x3), (.long x4), (.long x5), (.long (0 : Int64)), (.long (0 : Int64)), (.long (0 : Int64)), (.long (0 : Int64)), (.long (0 : Int64)), (.long (0 : Int64)), (.long (0 : Int64)), (.long (0 : Int64)), (.long (0 : Int64)), (.long (0 : Int64))] (.long (0 : Int64)) := Arv.set Ar59 q59 S59 M59 H59 U59 rfl W60 1 rfl (by show 1 < 16; decide)
      have K60 := K51.wr W60 (Or.inl (List.mem_of_getElem? (i := 1) rfl))
      have F62 := F53.other W60 (Or.inl (Nat.ne_of_lt lt_q))
      have F63 := F54.other W60 (Or.inl (Nat.ne_of_lt lt_q))
      have E64 := E55.wr W60
      have Z60 : n0 ≤ h60.size := by rw [W60.size]; exact Z51
      refine own_end X60 Bd.notSynchronized (v := some (.long x0)) (fun h => by rw [Bd.returns] at h; cases h) (fun fs hr => ?_) e60 ?_ (by decide) (by decide)
      · show Steps p.tables e below (T46.setTop (mkF m 82 #[.val (.ref b1), .val (.long x0), .second, .val (.long x3), .second, .val (.int (0 : Int32)), .val (.int (1 : Int32))] [(.int (lcmpW x1 x3))])) _
        refine XS.ifYes X46.here hx rfl (pc0 := 82) (pc' := 88) rfl (hb hby dR_82) rfl ((if0 _ _).trans (tlt ((lw_lt x1 x3).mpr hc82)).1) (by decide) (by decide) ?_
        show Steps p.tables e below (T46.setTop (mkF m 88 #[.val (.ref b1), .val (.long x0), .second, .val (.long x3), .second, .val (.int (0 : Int32)), .val (.int (1 : Int32))] [])) _
        refine XS.aloadN X46.here hx rfl (hb hby dR_88) rfl rfl ?_
        show Steps p.tables e below (T46.setTop (mkF m 89 #[.val (.ref b1), .val (.long x0), .second, .val (.long x3), .second, .val (.int (0 : Int32)), .val (.int (1 : Int32))] [(.ref b1)])) _
        refine st48 _ ?_
        show Steps p.tables e below (T48.setTop (mkF m 92 #[.val (.ref b1), .val (.long x0), .second, .val (.long x3), .second, .val (.int (0 : Int32)), .val (.int (1 : Int32))] [(.ref q1)])) _
        refine XS.iload X48.here hx rfl (hb hby dR_92) rfl ?_
        show Steps p.tables e below (T48.setTop (mkF m 94 #[.val (.ref b1), .val (.long x0), .second, .val (.long x3), .second, .val (.int (0 : Int32)), .val (.int (1 : Int32))] [(.int (0 : Int32)), (.ref q1)])) _
        refine XS.aloadN X48.here hx rfl (hb hby dR_94) rfl rfl ?_
        show Steps p.tables e below (T48.setTop (mkF m 95 #[.val (.ref b1), .val (.long x0), .second, .val (.long x3), .second, .val (.int (0 : Int32)), .val (.int (1 : Int32))] [(.ref b1), (.int (0 : Int32)), (.ref q1)])) _
        refine st49 _ ?_
        show Steps p.tables e below (T49.setTop (mkF m 98 #[.val (.ref b1), .val (.long x0), .second, .val (.long x3), .second, .val (.int (0 : Int32)), .val (.int (1 : Int32))] [(.ref q1), (.int (0 : Int32)), (.ref q1)])) _
        refine XS.iload X49.here hx rfl (hb hby dR_98) rfl ?_
        show Steps p.tables e below (T49.setTop (mkF m 100 #[.val (.ref b1), .val (.long x0), .second, .val (.long x3), .second, .val (.int (0 : Int32)), .val (.int (1 : Int32))] [(.int (1 : Int32)), (.ref q1), (.int (0 : Int32)), (.ref q1)])) _
        refine X49.laload hx (j := (1 : Int32)) (v := (.long x1)) (by rw [e49]; exact Ar11.1) (State.isArrayOf_alike hZ.alike Ar11.2.1) Ar11.2.2 (own_hin S11 hi50) ha50 (g := (mkF m 100 #[.val (.ref b1), .val (.long x0), .second, .val (.long x3), .second, .val (.int (0 : Int32)), .val (.int (1 : Int32))] [(.int (1 : Int32)), (.ref q1), (.int (0 : Int32)), (.ref q1)])) rfl rfl (hb hby dR_100) _ ?_
        show Steps p.tables e below (T49.setTop (mkF m 101 #[.val (.ref b1), .val (.long x0), .second, .val (.long x3), .second, .val (.int (0 : Int32)), .val (.int (1 : Int32))] [(.long x1), (.int (0 : Int32)), (.ref q1)])) _
        refine st51 _ ?_
        show Steps p.tables e below (T51.setTop (mkF m 102 #[.val (.ref b1), .val (.long x0), .second, .val (.long x3), .second, .val (.int (0 : Int32)), .val (.int (1 : Int32))] [])) _
        refine XS.iload X51.here hx rfl (hb hby dR_102) rfl ?_
        show Steps p.tables e below (T51.setTop (mkF m 104 #[.val (.ref b1), .val (.long x0), .second, .val (.long x3), .second, .val (.int (0 : Int32)), .val (.int (1 : Int32))] [(.int (1 : Int32))])) _
        refine XS.istore X51.here hx rfl (hb hby dR_104) rfl (l' := #[.val (.ref b1), .val (.long x0), .second, .val (.long x3), .second, .val (.int (1 : Int32)), .val (.int (1 : Int32))]) rfl ?_
        show Steps p.tables e below (T51.setTop (mkF m 106 #[.val (.ref b1), .val (.long x0), .second, .val (.long x3), .second, .val (.int (1 : Int32)), .val (.int (1 : Int32))] [])) _
        refine XS.iconst X51.here hx rfl (hb hby dR_106) ?_
        show Steps p.tables e below (T51.setTop (mkF m 107 #[.val (.ref b1), .val (.long x0), .second, .val (.long x3), .second, .val (.int (1 : Int32)), .val (.int (1 : Int32))] [(.int (2 : Int32))])) _
        refine XS.iload X51.here hx rfl (hb hby dR_107) rfl ?_
        show Steps p.tables e below (T51.setTop (mkF m 109 #[.val (.ref b1), .val (.long x0), .second, .val (.long x3), .second, .val (.int (1 : Int32)), .val (.int (1 : Int32))] [(.int (1 : Int32)), (.int (2 : Int32))])) _
        refine XS.imul X51.here hx rfl (hb hby dR_109) rfl ?_
        show Steps p.tables e below (T51.setTop (mkF m 110 #[.val (.ref b1), .val (.long x0), .second, .val (.long x3), .second, .val (.int (1 : Int32)), .val (.int (1 : Int32))] [(.int (2 : Int32))])) _
        refine XS.iconst X51.here hx rfl (hb hby dR_110) ?_
        show Steps p.tables e below (T51.setTop (mkF m 111 #[.val (.ref b1), .val (.long x0), .second, .val (.long x3), .second, .val (.int (1 : Int32)), .val (.int (1 : Int32))] [(.int (1 : Int32)), (.int (2 : Int32))])) _
        refine XS.iadd X51.here hx rfl (hb hby dR_111) rfl ?_
        show Steps p.tables e below (T51.setTop (mkF m 112 #[.val (.ref b1), .val (.long x0), .second, .val (.long x3), .second, .val (.int (1 : Int32)), .val (.int (1 : Int32))] [(.int (3 : Int32))])) _
        refine XS.istore X51.here hx rfl (hb hby dR_112) rfl (l' := #[.val (.ref b1), .val (.long x0), .second, .val (.long x3), .second, .val (.int (1 : Int32)), .val (.int (3 : Int32))]) rfl ?_
        show Steps p.tables e below (T51.setTop (mkF m 114 #[.val (.ref b1), .val (.long x0), .second, .val (.long x3), .second, .val (.int (1 : Int32)), .val (.int (3 : Int32))] [])) _
        refine XS.goto X51.here hx rfl (pc0 := 114) (pc' := 30) rfl (hb hby dR_114) (by decide) (by decide) ?_
        show Steps p.tables e below (T51.setTop (mkF m 30 #[.val (.ref b1), .val (.long x0), .second, .val (.long x3), .second, .val (.int (1 : Int32)), .val (.int (3 : Int32))] [])) _
        refine XS.iload X51.here hx rfl (hb hby dR_30) rfl ?_
        show Steps p.tables e below (T51.setTop (mkF m 32 #[.val (.ref b1), .val (.long x0), .second, .val (.long x3), .second, .val (.int (1 : Int32)), .val (.int (3 : Int32))] [(.int (3 : Int32))])) _
        refine XS.aloadN X51.here hx rfl (hb hby dR_32) rfl rfl ?_
        show Steps p.tables e below (T51.setTop (mkF m 33 #[.val (.ref b1), .val (.long x0), .second, .val (.long x3), .second, .val (.int (1 : Int32)), .val (.int (3 : Int32))] [(.ref b1), (.int (3 : Int32))])) _
        refine st56 _ ?_
        show Steps p.tables e below (T56.setTop (mkF m 36 #[.val (.ref b1), .val (.long x0), .second, .val (.long x3), .second, .val (.int (1 : Int32)), .val (.int (3 : Int32))] [(.int (3 : Int32)), (.int (3 : Int32))])) _
        refine XS.icmpYes X56.here hx rfl (pc0 := 36) (pc' := 117) rfl (hb hby dR_36) rfl (flt hc36_57).2.1 (by decide) (by decide) ?_
        show Steps p.tables e below (T56.setTop (mkF m 117 #[.val (.ref b1), .val (.long x0), .second, .val (.long x3), .second, .val (.int (1 : Int32)), .val (.int (3 : Int32))] [])) _
        refine XS.aloadN X56.here hx rfl (hb hby dR_117) rfl rfl ?_
        show Steps p.tables e below (T56.setTop (mkF m 118 #[.val (.ref b1), .val (.long x0), .second, .val (.long x3), .second, .val (.int (1 : Int32)), .val (.int (3 : Int32))] [(.ref b1)])) _
        refine st58 _ ?_
        show Steps p.tables e below (T58.setTop (mkF m 121 #[.val (.ref b1), .val (.long x0), .second, .val (.long x3), .second, .val (.int (1 : Int32)), .val (.int (3 : Int32))] [(.ref q1)])) _
        refine XS.iload X58.here hx rfl (hb hby dR_121) rfl ?_
        show Steps p.tables e below (T58.setTop (mkF m 123 #[.val (.ref b1), .val (.long x0), .second, .val (.long x3), .second, .val (.int (1 : Int32)), .val (.int (3 : Int32))] [(.int (1 : Int32)), (.ref q1)])) _
        refine XS.lloadN X58.here hx rfl (hb hby dR_123) rfl ?_
        show Steps p.tables e below (T58.setTop (mkF m 124 #[.val (.ref b1), .val (.long x0), .second, .val (.long x3), .second, .val (.int (1 : Int32)), .val (.int (3 : Int32))] [(.long x3), (.int (1 : Int32)), (.ref q1)])) _
        refine st60 _ ?_
        show Steps p.tables e below (T60.setTop (mkF m 125 #[.val (.ref b1), .val (.long x0), .second, .val (.long x3), .second, .val (.int (1 : Int32)), .val (.int (3 : Int32))] [])) _
        refine XS.lloadN X60.here hx rfl (hb hby dR_125) rfl ?_
        show Steps p.tables e below (T60.setTop (mkF m 126 #[.val (.ref b1), .val (.long x0), .second, .val (.long x3), .second, .val (.int (1 : Int32)), .val (.int (3 : Int32))] [(.long x0)])) _
        exact X60.lreturnOut hx Bd.returns (hb hby dR_126) hr
      · exact ⟨rfl, N60, K60, E64, F62, F63, _, _, _, _, _, _, by rw [own_rem_4, if_neg hc67, if_pos hc82], V61⟩
    · obtain ⟨T65, X65, e65, st65⟩ := getF X46 hx hZ hown (host := "") (Or.inl (hw _ (List.mem_of_getElem? (i := 14) rfl))) Via.refl e46 F8 (g := (mkF m 118 #[.val (.ref b1), .val (.long x0), .second, .val (.long x3), .second, .val (.int (0 : Int32)), .val (.int (1 : Int32))] [(.ref b1)])) rfl rfl (hb hby dR_118)
      obtain ⟨T66, h66, X66, e66, W66, st66⟩ := stJ X65 hx hZ e65 Ar11 (j := (0 : Int32)) (by rw [S11]; decide) (g := (mkF m 124 #[.val (.ref b1), .val (.long x0), .second, .val (.long x3), .second, .val (.int (0 : Int32)), .val (.int (1 : Int32))] [(.long x3), (.int (0 : Int32)), (.ref q1)])) rfl rfl (hb hby dR_124)
      have N66 := Fr.snoc X66 N6 lo_q1
      obtain ⟨lc66, X66, N66⟩ := own_lc X66 N66
      have V67 : Arv Z h66 q1 k1 .long (16 : Int32) [(.long x3), (.long x1), (.long x2), (.long x3), (.long x4), (.long x5), (.long (0 : Int64)), (.long (0 : Int64)), (.long (0 : Int64)), (.long (0 : Int64)), (.long (0 : Int64)), (.long (0 : Int64)), (.long (0 : Int64)), (.long (0 : Int64)), (.long (0 : Int64)), (.long (0 : Int64))] (.long (0 : Int64)) := Arv.set Ar11 q11 S11 M11 H11 U11 rfl W66 0 rfl (by show 0 < 16; decide)
      have K66 := K6.wr W66 (Or.inl (List.mem_of_getElem? (i := 1) rfl))
      have F68 := F8.other W66 (Or.inl (Nat.ne_of_lt lt_q))
      have F69 := F7.other W66 (Or.inl (Nat.ne_of_lt lt_q))
      have E70 := E9.wr W66
      have Z66 : n0 ≤ h66.size := by rw [W66.size]; exact Z6
      refine own_end X66 Bd.notSynchronized (v := some (.long x0)) (fun h => by rw [Bd.returns] at h; cases h) (fun fs hr => ?_) e66 ?_ (by decide) (by decide)
      · show Steps p.tables e below (T46.setTop (mkF m 82 #[.val (.ref b1), .val (.long x0), .second, .val (.long x3), .second, .val (.int (0 : Int32)), .val (.int (1 : Int32))] [(.int (lcmpW x1 x3))])) _
        refine XS.ifNo X46.here hx rfl (hb hby dR_82) rfl ((if0 _ _).trans (flt (fun q => hc82 ((lw_lt x1 x3).mp q))).1) ?_
        show Steps p.tables e below (T46.setTop (mkF m 85 #[.val (.ref b1), .val (.long x0), .second, .val (.long x3), .second, .val (.int (0 : Int32)), .val (.int (1 : Int32))] [])) _
        refine XS.goto X46.here hx rfl (pc0 := 85) (pc' := 117) rfl (hb hby dR_85) (by decide) (by decide) ?_
        show Steps p.tables e below (T46.setTop (mkF m 117 #[.val (.ref b1), .val (.long x0), .second, .val (.long x3), .second, .val (.int (0 : Int32)), .val (.int (1 : Int32))] [])) _
        refine XS.aloadN X46.here hx rfl (hb hby dR_117) rfl rfl ?_
        show Steps p.tables e below (T46.setTop (mkF m 118 #[.val (.ref b1), .val (.long x0), .second, .val (.long x3), .second, .val (.int (0 : Int32)), .val (.int (1 : Int32))] [(.ref b1)])) _
        refine st65 _ ?_
        show Steps p.tables e below (T65.setTop (mkF m 121 #[.val (.ref b1), .val (.long x0), .second, .val (.long x3), .second, .val (.int (0 : Int32)), .val (.int (1 : Int32))] [(.ref q1)])) _
        refine XS.iload X65.here hx rfl (hb hby dR_121) rfl ?_
        show Steps p.tables e below (T65.setTop (mkF m 123 #[.val (.ref b1), .val (.long x0), .second, .val (.long x3), .second, .val (.int (0 : Int32)), .val (.int (1 : Int32))] [(.int (0 : Int32)), (.ref q1)])) _
        refine XS.lloadN X65.here hx rfl (hb hby dR_123) rfl ?_
        show Steps p.tables e below (T65.setTop (mkF m 124 #[.val (.ref b1), .val (.long x0), .second, .val (.long x3), .second, .val (.int (0 : Int32)), .val (.int (1 : Int32))] [(.long x3), (.int (0 : Int32)), (.ref q1)])) _
        refine st66 _ ?_
        show Steps p.tables e below (T66.setTop (mkF m 125 #[.val (.ref b1), .val (.long x0), .second, .val (.long x3), .second, .val (.int (0 : Int32)), .val (.int (1 : Int32))] [])) _
        refine XS.lloadN X66.here hx rfl (hb hby dR_125) rfl ?_
        show Steps p.tables e below (T66.setTop (mkF m 126 #[.val (.ref b1), .val (.long x0), .second, .val (.long x3), .second, .val (.int (0 : Int32)), .val (.int (1 : Int32))] [(.long x0)])) _
        exact X66.lreturnOut hx Bd.returns (hb hby dR_126) hr
      · exact ⟨rfl, N66, K66, E70, F68, F69, _, _, _, _, _, _, by rw [own_rem_4, if_neg hc67, if_neg hc82], V67⟩
def own_rem_3 (x0 : Int64) (x1 : Int64) (x2 : Int64) (x3 : Int64) (x4 : Int64) (x5 : Int64) : List Int64 :=
  if x1 < x2 then
    [x1, x2, x2, x3, x4, x5]
  else
    [x2, x1, x2, x3, x4, x5]
theorem pn_r3 : plainName "com/example/kdata/kdata/LongHeap" = true := by first | (simp [plainName, overriddenIn]; done) | decide +kernel
theorem ef_r3 (m : MethodId) (x0 : Addr) : entryFrame m #[(.ref x0)] 7 = mkF m 0 #[.val (.ref x0), .unset, .unset, .unset, .unset, .unset, .unset] [] := by first | (simp [entryFrame, mkF, argsToLocals, Value.category]; done) | rfl
def Qr3 (Z : State) (b1 q1 : Addr) (k1 : ClassId) (x0 : Int64) (x1 : Int64) (x2 : Int64) (x3 : Int64) (x4 : Int64) (x5 : Int64) (h0 : Heap) (n0 : Nat) (v : Option Value) (h : Heap) (L : List Loc) : Prop := v = some (.long x0) ∧ Fr n0 L ∧ Keep h0 h [b1, q1] ∧ Exa Z h b1 "com/example/kdata/kdata/LongHeap" ∧ Fld Z h b1 "com/example/kdata/kdata/LongHeap" "data" "[J" (.ref q1) ∧ Fld Z h b1 "com/example/kdata/kdata/LongHeap" "size" "I" (.int (2 : Int32)) ∧ ∃ z0 z1 z2 z3 z4 z5 : Int64, [z0, z1, z2, z3, z4, z5] = own_rem_3 x0 x1 x2 x3 x4 x5 ∧ Arv Z h q1 k1 .long (16 : Int32) [(.long z0), (.long z1), (.long z2), (.long z3), (.long z4), (.long z5), (.long (0 : Int64)), (.long (0 : Int64)), (.long (0 : Int64)), (.long (0 : Int64)), (.long (0 : Int64)), (.long (0 : Int64)), (.long (0 : Int64)), (.long (0 : Int64)), (.long (0 : Int64)), (.long (0 : Int64))] (.long (0 : Int64))
set_option maxRecDepth 65536 in
set_option maxHeartbeats 40000000 in
theorem rmr3 (l : Launch) (Z : State) (a0 : Array Value) (hw : ∀ d ∈ tables_1, d.before a0 Z = true) (ws : List Jvm.Cond)  (b1 q1 : Addr) (k1 : ClassId) (x0 : Int64) (x1 : Int64) (x2 : Int64) (x3 : Int64) (x4 : Int64) (x5 : Int64) (h0 : Heap) (n0 : Nat) (Z0 : n0 ≤ h0.size) (F_d : Fld Z h0 b1 "com/example/kdata/kdata/LongHeap" "data" "[J" (.ref q1)) (F_s : Fld Z h0 b1 "com/example/kdata/kdata/LongHeap" "size" "I" (.int (3 : Int32))) (E_b1 : Exa Z h0 b1 "com/example/kdata/kdata/LongHeap") (lo_b1 : n0 ≤ b1) (lo_q1 : n0 ≤ q1) (lt_q : b1 < q1) (V_q1 : Arv Z h0 q1 k1 .long (16 : Int32) [(.long x0), (.long x1), (.long x2), (.long x3), (.long x4), (.long x5), (.long (0 : Int64)), (.long (0 : Int64)), (.long (0 : Int64)), (.long (0 : Int64)), (.long (0 : Int64)), (.long (0 : Int64)), (.long (0 : Int64)), (.long (0 : Int64)), (.long (0 : Int64)), (.long (0 : Int64))] (.long (0 : Int64))) :
    MetFree l (⟨"com/example/kdata/kdata/LongHeap", "removeLeast", "()J"⟩ : MethodName) (head1 (Jvm.Cond.code (⟨"com/example/kdata/kdata/LongHeap", "removeLeast", "()J"⟩ : MethodName) prog_81_method_4_code 7 (some .long) :: ws) ({ frames := 0, cells := 0, slots := 0, locals := 0 } : Room)) (fun a U => a = #[(.ref b1)] ∧ Z.Warmed39 U.vm ∧ U.heap = h0) (fun _ _ _ _ _ => True) (fun _ U o U' => ∃ v L, o = .returned v ∧ Qr3 Z b1 q1 k1 x0 x1 x2 x3 x4 x5 h0 n0 v U'.heap L ∧ FrameEnd U o U' L ({ frames := 0, cells := 0, slots := 0, locals := 0 } : Room).cells ({ frames := 0, cells := 0, slots := 0, locals := 0 } : Room).slots) := by
  refine MetFree.of_bodySF (plainFor_of_name pn_r3) hisR ?_
  intro p e s m args below meth c s₁ Bd hml0 hP hK
  obtain ⟨rfl, hZ, hh⟩ := hP
  have hx := Bd.exec
  have hby := Bd.bytes
  have hml : c.maxLocals = 7 := hml0
  have hown : s.vm.findClass "com/example/kdata/kdata/LongHeap" = some m.cls := findClass_of_methodNamed Bd.named
  have hnm := (name_of_methodNamed Bd.named Bd.method).1
  have X0 : Stand p l e ({ frames := 0, cells := 0, slots := 0, locals := 0 } : Room) s m #[(.ref b1)] below meth c s₁ [] 0 0 := Stand.of_body Bd
  have e0 : s₁.heap = h0 := by rw [← hh, Bd.state]; rfl
  have N0 := Fr.nil n0
  show own_Go p e below s (Qr3 Z b1 q1 k1 x0 x1 x2 x3 x4 x5 h0 n0) ({ frames := 0, cells := 0, slots := 0, locals := 0 } : Room).cells ({ frames := 0, cells := 0, slots := 0, locals := 0 } : Room).slots (s₁.setTop (entryFrame m #[(.ref b1)] 7))
  refine own_go (b := s₁.setTop (mkF m 0 #[.val (.ref b1), .unset, .unset, .unset, .unset, .unset, .unset] [])) (fun t k => castTop (ef_r3 m b1) k) ?_
  have K0 := Keep.refl h0 [b1, q1]
  obtain ⟨T1, X1, e1, st1⟩ := getF X0 hx hZ hown (host := "") (Or.inl (hw _ (List.mem_of_getElem? (i := 14) rfl))) Via.refl e0 F_d (g := (mkF m 1 #[.val (.ref b1), .unset, .unset, .unset, .unset, .unset, .unset] [(.ref b1)])) rfl rfl (hb hby dR_1)
  obtain ⟨cl2, Ar2, q2, S2, M2, H2, U2⟩ := id V_q1
  have hi3 : ¬ (0 : Int32) < 0 ∧ (0 : Int32).toNatClampNeg < (16 : Int32).toNatClampNeg := by decide
  have ha3 : cl2.slots[(0 : Int32).toNatClampNeg]? = some (.long x0) := H2 _ (by rw [S2]; exact hi3.2)
  obtain ⟨T4, X4, e4, st4⟩ := getF X1 hx hZ hown (host := "") (Or.inl (hw _ (List.mem_of_getElem? (i := 14) rfl))) Via.refl e1 F_d (g := (mkF m 8 #[.val (.ref b1), .val (.long x0), .second, .unset, .unset, .unset, .unset] [(.ref b1)])) rfl rfl (hb hby dR_8)
  obtain ⟨T5, X5, e5, st5⟩ := getF X4 hx hZ hown (host := "") (Or.inl (hw _ (List.mem_of_getElem? (i := 21) rfl))) Via.refl e4 F_s (g := (mkF m 13 #[.val (.ref b1), .val (.long x0), .second, .unset, .unset, .unset, .unset] [(.ref b1), (.ref b1), (.ref q1)])) rfl rfl (hb hby dR_13)
  obtain ⟨T6, h6, X6, e6, W6, st6⟩ := putF X5 hx hZ hown (host := "") (Or.inl (hw _ (List.mem_of_getElem? (i := 21) rfl))) Via.refl e5 F_s E_b1 (Or.inl (hw _ (List.mem_of_getElem? (i := 22) rfl))) (hw _ (List.mem_of_getElem? (i := 6) rfl)) (ty := .int) (by decide) rfl rfl (g := (mkF m 19 #[.val (.ref b1), .val (.long x0), .second, .unset, .unset, .unset, .unset] [(.int (2 : Int32)), (.ref b1), (.int (2 : Int32)), (.ref q1)])) rfl rfl (hb hby dR_19)
  have N6 := Fr.snoc X6 N0 lo_b1
  obtain ⟨lc6, X6, N6⟩ := own_lc X6 N6
  have K6 := K0.wr W6 (Or.inl (List.mem_of_getElem? (i := 0) rfl))
  have F7 : Fld Z h6 b1 "com/example/kdata/kdata/LongHeap" "size" "I" (.int (2 : Int32)) := F_s.same W6
  have F8 := F_d.other W6 (Or.inr (slot_ne (Or.inl (hw _ (List.mem_of_getElem? (i := 15) rfl))) (Or.inl (hw _ (List.mem_of_getElem? (i := 22) rfl))) (by decide) (t := (.array .long)) (t' := .int) (by decide) (by decide)))
  have E9 := E_b1.wr W6
  have V10 := V_q1.other W6 (Nat.ne_of_gt lt_q)
  have Z6 : n0 ≤ h6.size := by rw [W6.size]; exact Z0
  obtain ⟨cl11, Ar11, q11, S11, M11, H11, U11⟩ := id V10
  have hi12 : ¬ (2 : Int32) < 0 ∧ (2 : Int32).toNatClampNeg < (16 : Int32).toNatClampNeg := by decide
  have ha12 : cl11.slots[(2 : Int32).toNatClampNeg]? = some (.long x2) := H11 _ (by rw [S11]; exact hi12.2)
  obtain ⟨T13, X13, e13, st13⟩ := getF X6 hx hZ hown (host := "") (Or.inl (hw _ (List.mem_of_getElem? (i := 21) rfl))) Via.refl e6 F7 (g := (mkF m 33 #[.val (.ref b1), .val (.long x0), .second, .val (.long x2), .second, .val (.int (0 : Int32)), .val (.int (1 : Int32))] [(.ref b1), (.int (1 : Int32))])) rfl rfl (hb hby dR_33)
  have hc36_14 : (1 : Int32) < (2 : Int32) := (by decide)
  obtain ⟨T15, X15, e15, st15⟩ := getF X13 hx hZ hown (host := "") (Or.inl (hw _ (List.mem_of_getElem? (i := 21) rfl))) Via.refl e13 F7 (g := (mkF m 44 #[.val (.ref b1), .val (.long x0), .second, .val (.long x2), .second, .val (.int (0 : Int32)), .val (.int (1 : Int32))] [(.ref b1), (.int (2 : Int32))])) rfl rfl (hb hby dR_44)
  have hc47_16 : ¬ ((2 : Int32) < (2 : Int32)) := (by decide)
  obtain ⟨T17, X17, e17, st17⟩ := getF X15 hx hZ hown (host := "") (Or.inl (hw _ (List.mem_of_getElem? (i := 14) rfl))) Via.refl e15 F8 (g := (mkF m 74 #[.val (.ref b1), .val (.long x0), .second, .val (.long x2), .second, .val (.int (0 : Int32)), .val (.int (1 : Int32))] [(.ref b1)])) rfl rfl (hb hby dR_74)
  have hi18 : ¬ (1 : Int32) < 0 ∧ (1 : Int32).toNatClampNeg < (16 : Int32).toNatClampNeg := by decide
  have ha18 : cl11.slots[(1 : Int32).toNatClampNeg]? = some (.long x1) := H11 _ (by rw [S11]; exact hi18.2)
  refine own_go (b := T17.setTop (mkF m 82 #[.val (.ref b1), .val (.long x0), .second, .val (.long x2), .second, .val (.int (0 : Int32)), .val (.int (1 : Int32))] [(.int (lcmpW x1 x2))])) (fun t k => ?_) ?_
  · show Steps p.tables e below (s₁.setTop (mkF m 0 #[.val (.ref b1), .unset, .unset, .unset, .unset, .unset, .unset] [])) _
    refine XS.aloadN X0.here hx rfl (hb hby dR_0) rfl rfl ?_
    show Steps p.tables e below (s₁.setTop (mkF m 1 #[.val (.ref b1), .unset, .unset, .unset, .unset, .unset, .unset] [(.ref b1)])) _
    refine st1 _ ?_
    show Steps p.tables e below (T1.setTop (mkF m 4 #[.val (.ref b1), .unset, .unset, .unset, .unset, .unset, .unset] [(.ref q1)])) _
    refine XS.iconst X1.here hx rfl (hb hby dR_4) ?_
    show Steps p.tables e below (T1.setTop (mkF m 5 #[.val (.ref b1), .unset, .unset, .unset, .unset, .unset, .unset] [(.int (0 : Int32)), (.ref q1)])) _
    refine X1.laload hx (j := (0 : Int32)) (v := (.long x0)) (by rw [e1]; exact Ar2.1) (State.isArrayOf_alike hZ.alike Ar2.2.1) Ar2.2.2 (own_hin S2 hi3) ha3 (g := (mkF m 5 #[.val (.ref b1), .unset, .unset, .unset, .unset, .unset, .unset] [(.int (0 : Int32)), (.ref q1)])) rfl rfl (hb hby dR_5) _ ?_
    show Steps p.tables e below (T1.setTop (mkF m 6 #[.val (.ref b1), .unset, .unset, .unset, .unset, .unset, .unset] [(.long x0)])) _
    refine XS.lstoreN X1.here hx rfl (hb hby dR_6) rfl (l' := #[.val (.ref b1), .val (.long x0), .second, .unset, .unset, .unset, .unset]) rfl ?_
    show Steps p.tables e below (T1.setTop (mkF m 7 #[.val (.ref b1), .val (.long x0), .second, .unset, .unset, .unset, .unset] [])) _
    refine XS.aloadN X1.here hx rfl (hb hby dR_7) rfl rfl ?_
    show Steps p.tables e below (T1.setTop (mkF m 8 #[.val (.ref b1), .val (.long x0), .second, .unset, .unset, .unset, .unset] [(.ref b1)])) _
    refine st4 _ ?_
    show Steps p.tables e below (T4.setTop (mkF m 11 #[.val (.ref b1), .val (.long x0), .second, .unset, .unset, .unset, .unset] [(.ref q1)])) _
    refine XS.aloadN X4.here hx rfl (hb hby dR_11) rfl rfl ?_
    show Steps p.tables e below (T4.setTop (mkF m 12 #[.val (.ref b1), .val (.long x0), .second, .unset, .unset, .unset, .unset] [(.ref b1), (.ref q1)])) _
    refine XS.dup X4.here hx rfl (hb hby dR_12) rfl rfl ?_
    show Steps p.tables e below (T4.setTop (mkF m 13 #[.val (.ref b1), .val (.long x0), .second, .unset, .unset, .unset, .unset] [(.ref b1), (.ref b1), (.ref q1)])) _
    refine st5 _ ?_
    show Steps p.tables e below (T5.setTop (mkF m 16 #[.val (.ref b1), .val (.long x0), .second, .unset, .unset, .unset, .unset] [(.int (3 : Int32)), (.ref b1), (.ref q1)])) _
    refine XS.iconst X5.here hx rfl (hb hby dR_16) ?_
    show Steps p.tables e below (T5.setTop (mkF m 17 #[.val (.ref b1), .val (.long x0), .second, .unset, .unset, .unset, .unset] [(.int (1 : Int32)), (.int (3 : Int32)), (.ref b1), (.ref q1)])) _
    refine XS.isub X5.here hx rfl (hb hby dR_17) rfl ?_
    show Steps p.tables e below (T5.setTop (mkF m 18 #[.val (.ref b1), .val (.long x0), .second, .unset, .unset, .unset, .unset] [(.int (2 : Int32)), (.ref b1), (.ref q1)])) _
    refine XS.dupX1 X5.here hx rfl (hb hby dR_18) rfl rfl rfl ?_
    show Steps p.tables e below (T5.setTop (mkF m 19 #[.val (.ref b1), .val (.long x0), .second, .unset, .unset, .unset, .unset] [(.int (2 : Int32)), (.ref b1), (.int (2 : Int32)), (.ref q1)])) _
    refine st6 _ ?_
    show Steps p.tables e below (T6.setTop (mkF m 22 #[.val (.ref b1), .val (.long x0), .second, .unset, .unset, .unset, .unset] [(.int (2 : Int32)), (.ref q1)])) _
    refine X6.laload hx (j := (2 : Int32)) (v := (.long x2)) (by rw [e6]; exact Ar11.1) (State.isArrayOf_alike hZ.alike Ar11.2.1) Ar11.2.2 (own_hin S11 hi12) ha12 (g := (mkF m 22 #[.val (.ref b1), .val (.long x0), .second, .unset, .unset, .unset, .unset] [(.int (2 : Int32)), (.ref q1)])) rfl rfl (hb hby dR_22) _ ?_
    show Steps p.tables e below (T6.setTop (mkF m 23 #[.val (.ref b1), .val (.long x0), .second, .unset, .unset, .unset, .unset] [(.long x2)])) _
    refine XS.lstoreN X6.here hx rfl (hb hby dR_23) rfl (l' := #[.val (.ref b1), .val (.long x0), .second, .val (.long x2), .second, .unset, .unset]) rfl ?_
    show Steps p.tables e below (T6.setTop (mkF m 24 #[.val (.ref b1), .val (.long x0), .second, .val (.long x2), .second, .unset, .unset] [])) _
    refine XS.iconst X6.here hx rfl (hb hby dR_24) ?_
    show Steps p.tables e below (T6.setTop (mkF m 25 #[.val (.ref b1), .val (.long x0), .second, .val (.long x2), .second, .unset, .unset] [(.int (0 : Int32))])) _
    refine XS.istore X6.here hx rfl (hb hby dR_25) rfl (l' := #[.val (.ref b1), .val (.long x0), .second, .val (.long x2), .second, .val (.int (0 : Int32)), .unset]) rfl ?_
    show Steps p.tables e below (T6.setTop (mkF m 27 #[.val (.ref b1), .val (.long x0), .second, .val (.long x2), .second, .val (.int (0 : Int32)), .unset] [])) _
    refine XS.iconst X6.here hx rfl (hb hby dR_27) ?_
    show Steps p.tables e below (T6.setTop (mkF m 28 #[.val (.ref b1), .val (.long x0), .second, .val (.long x2), .second, .val (.int (0 : Int32)), .unset] [(.int (1 : Int32))])) _
    refine XS.istore X6.here hx rfl (hb hby dR_28) rfl (l' := #[.val (.ref b1), .val (.long x0), .second, .val (.long x2), .second, .val (.int (0 : Int32)), .val (.int (1 : Int32))]) rfl ?_
    show Steps p.tables e below (T6.setTop (mkF m 30 #[.val (.ref b1), .val (.long x0), .second, .val (.long x2), .second, .val (.int (0 : Int32)), .val (.int (1 : Int32))] [])) _
    refine XS.iload X6.here hx rfl (hb hby dR_30) rfl ?_
    show Steps p.tables e below (T6.setTop (mkF m 32 #[.val (.ref b1), .val (.long x0), .second, .val (.long x2), .second, .val (.int (0 : Int32)), .val (.int (1 : Int32))] [(.int (1 : Int32))])) _
    refine XS.aloadN X6.here hx rfl (hb hby dR_32) rfl rfl ?_
    show Steps p.tables e below (T6.setTop (mkF m 33 #[.val (.ref b1), .val (.long x0), .second, .val (.long x2), .second, .val (.int (0 : Int32)), .val (.int (1 : Int32))] [(.ref b1), (.int (1 : Int32))])) _
    refine st13 _ ?_
    show Steps p.tables e below (T13.setTop (mkF m 36 #[.val (.ref b1), .val (.long x0), .second, .val (.long x2), .second, .val (.int (0 : Int32)), .val (.int (1 : Int32))] [(.int (2 : Int32)), (.int (1 : Int32))])) _
    refine XS.icmpNo X13.here hx rfl (hb hby dR_36) rfl (tlt hc36_14).2.1 ?_
    show Steps p.tables e below (T13.setTop (mkF m 39 #[.val (.ref b1), .val (.long x0), .second, .val (.long x2), .second, .val (.int (0 : Int32)), .val (.int (1 : Int32))] [])) _
    refine XS.iload X13.here hx rfl (hb hby dR_39) rfl ?_
    show Steps p.tables e below (T13.setTop (mkF m 41 #[.val (.ref b1), .val (.long x0), .second, .val (.long x2), .second, .val (.int (0 : Int32)), .val (.int (1 : Int32))] [(.int (1 : Int32))])) _
    refine XS.iconst X13.here hx rfl (hb hby dR_41) ?_
    show Steps p.tables e below (T13.setTop (mkF m 42 #[.val (.ref b1), .val (.long x0), .second, .val (.long x2), .second, .val (.int (0 : Int32)), .val (.int (1 : Int32))] [(.int (1 : Int32)), (.int (1 : Int32))])) _
    refine XS.iadd X13.here hx rfl (hb hby dR_42) rfl ?_
    show Steps p.tables e below (T13.setTop (mkF m 43 #[.val (.ref b1), .val (.long x0), .second, .val (.long x2), .second, .val (.int (0 : Int32)), .val (.int (1 : Int32))] [(.int (2 : Int32))])) _
    refine XS.aloadN X13.here hx rfl (hb hby dR_43) rfl rfl ?_
    show Steps p.tables e below (T13.setTop (mkF m 44 #[.val (.ref b1), .val (.long x0), .second, .val (.long x2), .second, .val (.int (0 : Int32)), .val (.int (1 : Int32))] [(.ref b1), (.int (2 : Int32))])) _
    refine st15 _ ?_
    show Steps p.tables e below (T15.setTop (mkF m 47 #[.val (.ref b1), .val (.long x0), .second, .val (.long x2), .second, .val (.int (0 : Int32)), .val (.int (1 : Int32))] [(.int (2 : Int32)), (.int (2 : Int32))])) _
    refine XS.icmpYes X15.here hx rfl (pc0 := 47) (pc' := 73) rfl (hb hby dR_47) rfl (flt hc47_16).2.1 (by decide) (by decide) ?_
    show Steps p.tables e below (T15.setTop (mkF m 73 #[.val (.ref b1), .val (.long x0), .second, .val (.long x2), .second, .val (.int (0 : Int32)), .val (.int (1 : Int32))] [])) _
    refine XS.aloadN X15.here hx rfl (hb hby dR_73) rfl rfl ?_
    show Steps p.tables e below (T15.setTop (mkF m 74 #[.val (.ref b1), .val (.long x0), .second, .val (.long x2), .second, .val (.int (0 : Int32)), .val (.int (1 : Int32))] [(.ref b1)])) _
    refine st17 _ ?_
    show Steps p.tables e below (T17.setTop (mkF m 77 #[.val (.ref b1), .val (.long x0), .second, .val (.long x2), .second, .val (.int (0 : Int32)), .val (.int (1 : Int32))] [(.ref q1)])) _
    refine XS.iload X17.here hx rfl (hb hby dR_77) rfl ?_
    show Steps p.tables e below (T17.setTop (mkF m 79 #[.val (.ref b1), .val (.long x0), .second, .val (.long x2), .second, .val (.int (0 : Int32)), .val (.int (1 : Int32))] [(.int (1 : Int32)), (.ref q1)])) _
    refine X17.laload hx (j := (1 : Int32)) (v := (.long x1)) (by rw [e17]; exact Ar11.1) (State.isArrayOf_alike hZ.alike Ar11.2.1) Ar11.2.2 (own_hin S11 hi18) ha18 (g := (mkF m 79 #[.val (.ref b1), .val (.long x0), .second, .val (.long x2), .second, .val (.int (0 : Int32)), .val (.int (1 : Int32))] [(.int (1 : Int32)), (.ref q1)])) rfl rfl (hb hby dR_79) _ ?_
    show Steps p.tables e below (T17.setTop (mkF m 80 #[.val (.ref b1), .val (.long x0), .second, .val (.long x2), .second, .val (.int (0 : Int32)), .val (.int (1 : Int32))] [(.long x1)])) _
    refine XS.lloadN X17.here hx rfl (hb hby dR_80) rfl ?_
    show Steps p.tables e below (T17.setTop (mkF m 81 #[.val (.ref b1), .val (.long x0), .second, .val (.long x2), .second, .val (.int (0 : Int32)), .val (.int (1 : Int32))] [(.long x2), (.long x1)])) _
    refine XS.lcmp X17.here hx rfl (hb hby dR_81) rfl ?_
    show Steps p.tables e below (T17.setTop (mkF m 82 #[.val (.ref b1), .val (.long x0), .second, .val (.long x2), .second, .val (.int (0 : Int32)), .val (.int (1 : Int32))] [(.int (lcmpW x1 x2))])) _
    exact k
  by_cases hc82 : x1 < x2
  · obtain ⟨T19, X19, e19, st19⟩ := getF X17 hx hZ hown (host := "") (Or.inl (hw _ (List.mem_of_getElem? (i := 14) rfl))) Via.refl e17 F8 (g := (mkF m 89 #[.val (.ref b1), .val (.long x0), .second, .val (.long x2), .second, .val (.int (0 : Int32)), .val (.int (1 : Int32))] [(.ref b1)])) rfl rfl (hb hby dR_89)
    obtain ⟨T20, X20, e20, st20⟩ := getF X19 hx hZ hown (host := "") (Or.inl (hw _ (List.mem_of_getElem? (i := 14) rfl))) Via.refl e19 F8 (g := (mkF m 95 #[.val (.ref b1), .val (.long x0), .second, .val (.long x2), .second, .val (.int (0 : Int32)), .val (.int (1 : Int32))] [(.ref b1), (.int (0 : Int32)), (.ref q1)])) rfl rfl (hb hby dR_95)
    have hi21 : ¬ (1 : Int32) < 0 ∧ (1 : Int32).toNatClampNeg < (16 : Int32).toNatClampNeg := by decide
    have ha21 : cl11.slots[(1 : Int32).toNatClampNeg]? = some (.long x1) := H11 _ (by rw [S11]; exact hi21.2)
    obtain ⟨T22, h22, X22, e22, W22, st22⟩ := stJ X20 hx hZ e20 Ar11 (j := (0 : Int32)) (by rw [S11]; decide) (g := (mkF m 101 #[.val (.ref b1), .val (.long x0), .second, .val (.long x2), .second, .val (.int (0 : Int32)), .val (.int (1 : Int32))] [(.long x1), (.int (0 : Int32)), (.ref q1)])) rfl rfl (hb hby dR_101)
    have N22 := Fr.snoc X22 N6 lo_q1
    obtain ⟨lc22, X22, N22⟩ := own_lc X22 N22
    have V23 : Arv Z h22 q1 k1 .long (16 : Int32) [(.long x1), (.long x1), (.long x2), (.long x3), (.long x4), (.long x5), (.long (0 : Int64)), (.long (0 : Int64)), (.long (0 : Int64)), (.long (0 : Int64)), (.long (0 : Int64)), (.long (0 : Int64)), (.long (0 : Int64)), (.long (0 : Int64)), (.long (0 : Int64)), (.long (0 : Int64))] (.long (0 : Int64)) := Arv.set Ar11 q11 S11 M11 H11 U11 rfl W22 0 rfl (by show 0 < 16; decide)
    have K22 := K6.wr W22 (Or.inl (List.mem_of_getElem? (i := 1) rfl))
    have F24 := F8.other W22 (Or.inl (Nat.ne_of_lt lt_q))
    have F25 := F7.other W22 (Or.inl (Nat.ne_of_lt lt_q))
    have E26 := E9.wr W22
    have Z22 : n0 ≤ h22.size := by rw [W22.size]; exact Z6
    obtain ⟨T27, X27, e27, st27⟩ := getF X22 hx hZ hown (host := "") (Or.inl (hw _ (List.mem_of_getElem? (i := 21) rfl))) Via.refl e22 F25 (g := (mkF m 33 #[.val (.ref b1), .val (.long x0), .second, .val (.long x2), .second, .val (.int (1 : Int32)), .val (.int (3 : Int32))] [(.ref b1), (.int (3 : Int32))])) rfl rfl (hb hby dR_33)
    have hc36_28 : ¬ ((3 : Int32) < (2 : Int32)) := (by decide)
    obtain ⟨T29, X29, e29, st29⟩ := getF X27 hx hZ hown (host := "") (Or.inl (hw _ (List.mem_of_getElem? (i := 14) rfl))) Via.refl e27 F24 (g := (mkF m 118 #[.val (.ref b1), .val (.long x0), .second, .val (.long x2), .second, .val (.int (1 : Int32)), .val (.int (3 : Int32))] [(.ref b1)])) rfl rfl (hb hby dR_118)
    obtain ⟨cl30, Ar30, q30, S30, M30, H30, U30⟩ := id V23
    obtain ⟨T31, h31, X31, e31, W31, st31⟩ := stJ X29 hx hZ e29 Ar30 (j := (1 : Int32)) (by rw [S30]; decide) (g := (mkF m 124 #[.val (.ref b1), .val (.long x0), .second, .val (.long x2), .second, .val (.int (1 : Int32)), .val (.int (3 : Int32))] [(.long x2), (.int (1 : Int32)), (.ref q1)])) rfl rfl (hb hby dR_124)
    have N31 := Fr.snoc X31 N22 lo_q1
    obtain ⟨lc31, X31, N31⟩ := own_lc X31 N31
    have V32 : Arv Z h31 q1 k1 .long (16 : Int32) [(.long x1), (.long x2), (.long x2), (.long x3), (.long x4), (.long x5), (.long (0 : Int64)), (.long (0 : Int64)), (.long (0 : Int64)), (.long (0 : Int64)), (.long (0 : Int64)), (.long (0 : Int64)), (.long (0 : Int64)), (.long (0 : Int64)), (.long (0 : Int64)), (.long (0 : Int64))] (.long (0 : Int64)) := Arv.set Ar30 q30 S30 M30 H30 U30 rfl W31 1 rfl (by show 1 < 16; decide)
    have K31 := K22.wr W31 (Or.inl (List.mem_of_getElem? (i := 1) rfl))
    have F33 := F24.other W31 (Or.inl (Nat.ne_of_lt lt_q))
    have F34 := F25.other W31 (Or.inl (Nat.ne_of_lt lt_q))
    have E35 := E26.wr W31
    have Z31 : n0 ≤ h31.size := by rw [W31.size]; exact Z22
    refine own_end X31 Bd.notSynchronized (v := some (.long x0)) (fun h => by rw [Bd.returns] at h; cases h) (fun fs hr => ?_) e31 ?_ (by decide) (by decide)
    · show Steps p.tables e below (T17.setTop (mkF m 82 #[.val (.ref b1), .val (.long x0), .second, .val (.long x2), .second, .val (.int (0 : Int32)), .val (.int (1 : Int32))] [(.int (lcmpW x1 x2))])) _
      refine XS.ifYes X17.here hx rfl (pc0 := 82) (pc' := 88) rfl (hb hby dR_82) rfl ((if0 _ _).trans (tlt ((lw_lt x1 x2).mpr hc82)).1) (by decide) (by decide) ?_
      show Steps p.tables e below (T17.setTop (mkF m 88 #[.val (.ref b1), .val (.long x0), .second, .val (.long x2), .second, .val (.int (0 : Int32)), .val (.int (1 : Int32))] [])) _
      refine XS.aloadN X17.here hx rfl (hb hby dR_88) rfl rfl ?_
      show Steps p.tables e below (T17.setTop (mkF m 89 #[.val (.ref b1), .val (.long x0), .second, .val (.long x2), .second, .val (.int (0 : Int32)), .val (.int (1 : Int32))] [(.ref b1)])) _
      refine st19 _ ?_
      show Steps p.tables e below (T19.setTop (mkF m 92 #[.val (.ref b1), .val (.long x0), .second, .val (.long x2), .second, .val (.int (0 : Int32)), .val (.int (1 : Int32))] [(.ref q1)])) _
      refine XS.iload X19.here hx rfl (hb hby dR_92) rfl ?_
      show Steps p.tables e below (T19.setTop (mkF m 94 #[.val (.ref b1), .val (.long x0), .second, .val (.long x2), .second, .val (.int (0 : Int32)), .val (.int (1 : Int32))] [(.int (0 : Int32)), (.ref q1)])) _
      refine XS.aloadN X19.here hx rfl (hb hby dR_94) rfl rfl ?_
      show Steps p.tables e below (T19.setTop (mkF m 95 #[.val (.ref b1), .val (.long x0), .second, .val (.long x2), .second, .val (.int (0 : Int32)), .val (.int (1 : Int32))] [(.ref b1), (.int (0 : Int32)), (.ref q1)])) _
      refine st20 _ ?_
      show Steps p.tables e below (T20.setTop (mkF m 98 #[.val (.ref b1), .val (.long x0), .second, .val (.long x2), .second, .val (.int (0 : Int32)), .val (.int (1 : Int32))] [(.ref q1), (.int (0 : Int32)), (.ref q1)])) _
      refine XS.iload X20.here hx rfl (hb hby dR_98) rfl ?_
      show Steps p.tables e below (T20.setTop (mkF m 100 #[.val (.ref b1), .val (.long x0), .second, .val (.long x2), .second, .val (.int (0 : Int32)), .val (.int (1 : Int32))] [(.int (1 : Int32)), (.ref q1), (.int (0 : Int32)), (.ref q1)])) _
      refine X20.laload hx (j := (1 : Int32)) (v := (.long x1)) (by rw [e20]; exact Ar11.1) (State.isArrayOf_alike hZ.alike Ar11.2.1) Ar11.2.2 (own_hin S11 hi21) ha21 (g := (mkF m 100 #[.val (.ref b1), .val (.long x0), .second, .val (.long x2), .second, .val (.int (0 : Int32)), .val (.int (1 : Int32))] [(.int (1 : Int32)), (.ref q1), (.int (0 : Int32)), (.ref q1)])) rfl rfl (hb hby dR_100) _ ?_
      show Steps p.tables e below (T20.setTop (mkF m 101 #[.val (.ref b1), .val (.long x0), .second, .val (.long x2), .second, .val (.int (0 : Int32)), .val (.int (1 : Int32))] [(.long x1), (.int (0 : Int32)), (.ref q1)])) _
      refine st22 _ ?_
      show Steps p.tables e below (T22.setTop (mkF m 102 #[.val (.ref b1), .val (.long x0), .second, .val (.long x2), .second, .val (.int (0 : Int32)), .val (.int (1 : Int32))] [])) _
      refine XS.iload X22.here hx rfl (hb hby dR_102) rfl ?_
      show Steps p.tables e below (T22.setTop (mkF m 104 #[.val (.ref b1), .val (.long x0), .second, .val (.long x2), .second, .val (.int (0 : Int32)), .val (.int (1 : Int32))] [(.int (1 : Int32))])) _
      refine XS.istore X22.here hx rfl (hb hby dR_104) rfl (l' := #[.val (.ref b1), .val (.long x0), .second, .val (.long x2), .second, .val (.int (1 : Int32)), .val (.int (1 : Int32))]) rfl ?_
      show Steps p.tables e below (T22.setTop (mkF m 106 #[.val (.ref b1), .val (.long x0), .second, .val (.long x2), .second, .val (.int (1 : Int32)), .val (.int (1 : Int32))] [])) _
      refine XS.iconst X22.here hx rfl (hb hby dR_106) ?_
      show Steps p.tables e below (T22.setTop (mkF m 107 #[.val (.ref b1), .val (.long x0), .second, .val (.long x2), .second, .val (.int (1 : Int32)), .val (.int (1 : Int32))] [(.int (2 : Int32))])) _
      refine XS.iload X22.here hx rfl (hb hby dR_107) rfl ?_
      show Steps p.tables e below (T22.setTop (mkF m 109 #[.val (.ref b1), .val (.long x0), .second, .val (.long x2), .second, .val (.int (1 : Int32)), .val (.int (1 : Int32))] [(.int (1 : Int32)), (.int (2 : Int32))])) _
      refine XS.imul X22.here hx rfl (hb hby dR_109) rfl ?_
      show Steps p.tables e below (T22.setTop (mkF m 110 #[.val (.ref b1), .val (.long x0), .second, .val (.long x2), .second, .val (.int (1 : Int32)), .val (.int (1 : Int32))] [(.int (2 : Int32))])) _
      refine XS.iconst X22.here hx rfl (hb hby dR_110) ?_
      show Steps p.tables e below (T22.setTop (mkF m 111 #[.val (.ref b1), .val (.long x0), .second, .val (.long x2), .second, .val (.int (1 : Int32)), .val (.int (1 : Int32))] [(.int (1 : Int32)), (.int (2 : Int32))])) _
      refine XS.iadd X22.here hx rfl (hb hby dR_111) rfl ?_
      show Steps p.tables e below (T22.setTop (mkF m 112 #[.val (.ref b1), .val (.long x0), .second, .val (.long x2), .second, .val (.int (1 : Int32)), .val (.int (1 : Int32))] [(.int (3 : Int32))])) _
      refine XS.istore X22.here hx rfl (hb hby dR_112) rfl (l' := #[.val (.ref b1), .val (.long x0), .second, .val (.long x2), .second, .val (.int (1 : Int32)), .val (.int (3 : Int32))]) rfl ?_
      show Steps p.tables e below (T22.setTop (mkF m 114 #[.val (.ref b1), .val (.long x0), .second, .val (.long x2), .second, .val (.int (1 : Int32)), .val (.int (3 : Int32))] [])) _
      refine XS.goto X22.here hx rfl (pc0 := 114) (pc' := 30) rfl (hb hby dR_114) (by decide) (by decide) ?_
      show Steps p.tables e below (T22.setTop (mkF m 30 #[.val (.ref b1), .val (.long x0), .second, .val (.long x2), .second, .val (.int (1 : Int32)), .val (.int (3 : Int32))] [])) _
      refine XS.iload X22.here hx rfl (hb hby dR_30) rfl ?_
      show Steps p.tables e below (T22.setTop (mkF m 32 #[.val (.ref b1), .val (.long x0), .second, .val (.long x2), .second, .val (.int (1 : Int32)), .val (.int (3 : Int32))] [(.int (3 : Int32))])) _
      refine XS.aloadN X22.here hx rfl (hb hby dR_32) rfl rfl ?_
      show Steps p.tables e below (T22.setTop (mkF m 33 #[.val (.ref b1), .val (.long x0), .second, .val (.long x2), .second, .val (.int (1 : Int32)), .val (.int (3 : Int32))] [(.ref b1), (.int (3 : Int32))])) _
      refine st27 _ ?_
      show Steps p.tables e below (T27.setTop (mkF m 36 #[.val (.ref b1), .val (.long x0), .second, .val (.long x2), .second, .val (.int (1 : Int32)), .val (.int (3 : Int32))] [(.int (2 : Int32)), (.int (3 : Int32))])) _
      refine XS.icmpYes X27.here hx rfl (pc0 := 36) (pc' := 117) rfl (hb hby dR_36) rfl (flt hc36_28).2.1 (by decide) (by decide) ?_
      show Steps p.tables e below (T27.setTop (mkF m 117 #[.val (.ref b1), .val (.long x0), .second, .val (.long x2), .second, .val (.int (1 : Int32)), .val (.int (3 : Int32))] [])) _
      refine XS.aloadN X27.here hx rfl (hb hby dR_117) rfl rfl ?_
      show Steps p.tables e below (T27.setTop (mkF m 118 #[.val (.ref b1), .val (.long x0), .second, .val (.long x2), .second, .val (.int (1 : Int32)), .val (.int (3 : Int32))] [(.ref b1)])) _
      refine st29 _ ?_
      show Steps p.tables e below (T29.setTop (mkF m 121 #[.val (.ref b1), .val (.long x0), .second, .val (.long x2), .second, .val (.int (1 : Int32)), .val (.int (3 : Int32))] [(.ref q1)])) _
      refine XS.iload X29.here hx rfl (hb hby dR_121) rfl ?_
      show Steps p.tables e below (T29.setTop (mkF m 123 #[.val (.ref b1), .val (.long x0), .second, .val (.long x2), .second, .val (.int (1 : Int32)), .val (.int (3 : Int32))] [(.int (1 : Int32)), (.ref q1)])) _
      refine XS.lloadN X29.here hx rfl (hb hby dR_123) rfl ?_
      show Steps p.tables e below (T29.setTop (mkF m 124 #[.val (.ref b1), .val (.long x0), .second, .val (.long x2), .second, .val (.int (1 : Int32)), .val (.int (3 : Int32))] [(.long x2), (.int (1 : Int32)), (.ref q1)])) _
      refine st31 _ ?_
      show Steps p.tables e below (T31.setTop (mkF m 125 #[.val (.ref b1), .val (.long x0), .second, .val (.long x2), .second, .val (.int (1 : Int32)), .val (.int (3 : Int32))] [])) _
      refine XS.lloadN X31.here hx rfl (hb hby dR_125) rfl ?_
      show Steps p.tables e below (T31.setTop (mkF m 126 #[.val (.ref b1), .val (.long x0), .second, .val (.long x2), .second, .val (.int (1 : Int32)), .val (.int (3 : Int32))] [(.long x0)])) _
      exact X31.lreturnOut hx Bd.returns (hb hby dR_126) hr
    · exact ⟨rfl, N31, K31, E35, F33, F34, _, _, _, _, _, _, by rw [own_rem_3, if_pos hc82], V32⟩
  · obtain ⟨T36, X36, e36, st36⟩ := getF X17 hx hZ hown (host := "") (Or.inl (hw _ (List.mem_of_getElem? (i := 14) rfl))) Via.refl e17 F8 (g := (mkF m 118 #[.val (.ref b1), .val (.long x0), .second, .val (.long x2), .second, .val (.int (0 : Int32)), .val (.int (1 : Int32))] [(.ref b1)])) rfl rfl (hb hby dR_118)
    obtain ⟨T37, h37, X37, e37, W37, st37⟩ := stJ X36 hx hZ e36 Ar11 (j := (0 : Int32)) (by rw [S11]; decide) (g := (mkF m 124 #[.val (.ref b1), .val (.long x0), .second, .val (.long x2), .second, .val (.int (0 : Int32)), .val (.int (1 : Int32))] [(.long x2), (.int (0 : Int32)), (.ref q1)])) rfl rfl (hb hby dR_124)
    have N37 := Fr.snoc X37 N6 lo_q1
    obtain ⟨lc37, X37, N37⟩ := own_lc X37 N37
    have V38 : Arv Z h37 q1 k1 .long (16 : Int32) [(.long x2), (.long x1), (.long x2), (.long x3), (.long x4), (.long x5), (.long (0 : Int64)), (.long (0 : Int64)), (.long (0 : Int64)), (.long (0 : Int64)), (.long (0 : Int64)), (.long (0 : Int64)), (.long (0 : Int64)), (.long (0 : Int64)), (.long (0 : Int64)), (.long (0 : Int64))] (.long (0 : Int64)) := Arv.set Ar11 q11 S11 M11 H11 U11 rfl W37 0 rfl (by show 0 < 16; decide)
    have K37 := K6.wr W37 (Or.inl (List.mem_of_getElem? (i := 1) rfl))
    have F39 := F8.other W37 (Or.inl (Nat.ne_of_lt lt_q))
    have F40 := F7.other W37 (Or.inl (Nat.ne_of_lt lt_q))
    have E41 := E9.wr W37
    have Z37 : n0 ≤ h37.size := by rw [W37.size]; exact Z6
    refine own_end X37 Bd.notSynchronized (v := some (.long x0)) (fun h => by rw [Bd.returns] at h; cases h) (fun fs hr => ?_) e37 ?_ (by decide) (by decide)
    · show Steps p.tables e below (T17.setTop (mkF m 82 #[.val (.ref b1), .val (.long x0), .second, .val (.long x2), .second, .val (.int (0 : Int32)), .val (.int (1 : Int32))] [(.int (lcmpW x1 x2))])) _
      refine XS.ifNo X17.here hx rfl (hb hby dR_82) rfl ((if0 _ _).trans (flt (fun q => hc82 ((lw_lt x1 x2).mp q))).1) ?_
      show Steps p.tables e below (T17.setTop (mkF m 85 #[.val (.ref b1), .val (.long x0), .second, .val (.long x2), .second, .val (.int (0 : Int32)), .val (.int (1 : Int32))] [])) _
      refine XS.goto X17.here hx rfl (pc0 := 85) (pc' := 117) rfl (hb hby dR_85) (by decide) (by decide) ?_
      show Steps p.tables e below (T17.setTop (mkF m 117 #[.val (.ref b1), .val (.long x0), .second, .val (.long x2), .second, .val (.int (0 : Int32)), .val (.int (1 : Int32))] [])) _
      refine XS.aloadN X17.here hx rfl (hb hby dR_117) rfl rfl ?_
      show Steps p.tables e below (T17.setTop (mkF m 118 #[.val (.ref b1), .val (.long x0), .second, .val (.long x2), .second, .val (.int (0 : Int32)), .val (.int (1 : Int32))] [(.ref b1)])) _
      refine st36 _ ?_
      show Steps p.tables e below (T36.setTop (mkF m 121 #[.val (.ref b1), .val (.long x0), .second, .val (.long x2), .second, .val (.int (0 : Int32)), .val (.int (1 : Int32))] [(.ref q1)])) _
      refine XS.iload X36.here hx rfl (hb hby dR_121) rfl ?_
      show Steps p.tables e below (T36.setTop (mkF m 123 #[.val (.ref b1), .val (.long x0), .second, .val (.long x2), .second, .val (.int (0 : Int32)), .val (.int (1 : Int32))] [(.int (0 : Int32)), (.ref q1)])) _
      refine XS.lloadN X36.here hx rfl (hb hby dR_123) rfl ?_
      show Steps p.tables e below (T36.setTop (mkF m 124 #[.val (.ref b1), .val (.long x0), .second, .val (.long x2), .second, .val (.int (0 : Int32)), .val (.int (1 : Int32))] [(.long x2), (.int (0 : Int32)), (.ref q1)])) _
      refine st37 _ ?_
      show Steps p.tables e below (T37.setTop (mkF m 125 #[.val (.ref b1), .val (.long x0), .second, .val (.long x2), .second, .val (.int (0 : Int32)), .val (.int (1 : Int32))] [])) _
      refine XS.lloadN X37.here hx rfl (hb hby dR_125) rfl ?_
      show Steps p.tables e below (T37.setTop (mkF m 126 #[.val (.ref b1), .val (.long x0), .second, .val (.long x2), .second, .val (.int (0 : Int32)), .val (.int (1 : Int32))] [(.long x0)])) _
      exact X37.lreturnOut hx Bd.returns (hb hby dR_126) hr
    · exact ⟨rfl, N37, K37, E41, F39, F40, _, _, _, _, _, _, by rw [own_rem_3, if_neg hc82], V38⟩
def own_rem_2 (x0 : Int64) (x1 : Int64) (x2 : Int64) (x3 : Int64) (x4 : Int64) (x5 : Int64) : List Int64 :=
  [x1, x1, x2, x3, x4, x5]
theorem pn_r2 : plainName "com/example/kdata/kdata/LongHeap" = true := by first | (simp [plainName, overriddenIn]; done) | decide +kernel
theorem ef_r2 (m : MethodId) (x0 : Addr) : entryFrame m #[(.ref x0)] 7 = mkF m 0 #[.val (.ref x0), .unset, .unset, .unset, .unset, .unset, .unset] [] := by first | (simp [entryFrame, mkF, argsToLocals, Value.category]; done) | rfl
def Qr2 (Z : State) (b1 q1 : Addr) (k1 : ClassId) (x0 : Int64) (x1 : Int64) (x2 : Int64) (x3 : Int64) (x4 : Int64) (x5 : Int64) (h0 : Heap) (n0 : Nat) (v : Option Value) (h : Heap) (L : List Loc) : Prop := v = some (.long x0) ∧ Fr n0 L ∧ Keep h0 h [b1, q1] ∧ Exa Z h b1 "com/example/kdata/kdata/LongHeap" ∧ Fld Z h b1 "com/example/kdata/kdata/LongHeap" "data" "[J" (.ref q1) ∧ Fld Z h b1 "com/example/kdata/kdata/LongHeap" "size" "I" (.int (1 : Int32)) ∧ ∃ z0 z1 z2 z3 z4 z5 : Int64, [z0, z1, z2, z3, z4, z5] = own_rem_2 x0 x1 x2 x3 x4 x5 ∧ Arv Z h q1 k1 .long (16 : Int32) [(.long z0), (.long z1), (.long z2), (.long z3), (.long z4), (.long z5), (.long (0 : Int64)), (.long (0 : Int64)), (.long (0 : Int64)), (.long (0 : Int64)), (.long (0 : Int64)), (.long (0 : Int64)), (.long (0 : Int64)), (.long (0 : Int64)), (.long (0 : Int64)), (.long (0 : Int64))] (.long (0 : Int64))
set_option maxRecDepth 65536 in
set_option maxHeartbeats 40000000 in
theorem rmr2 (l : Launch) (Z : State) (a0 : Array Value) (hw : ∀ d ∈ tables_1, d.before a0 Z = true) (ws : List Jvm.Cond)  (b1 q1 : Addr) (k1 : ClassId) (x0 : Int64) (x1 : Int64) (x2 : Int64) (x3 : Int64) (x4 : Int64) (x5 : Int64) (h0 : Heap) (n0 : Nat) (Z0 : n0 ≤ h0.size) (F_d : Fld Z h0 b1 "com/example/kdata/kdata/LongHeap" "data" "[J" (.ref q1)) (F_s : Fld Z h0 b1 "com/example/kdata/kdata/LongHeap" "size" "I" (.int (2 : Int32))) (E_b1 : Exa Z h0 b1 "com/example/kdata/kdata/LongHeap") (lo_b1 : n0 ≤ b1) (lo_q1 : n0 ≤ q1) (lt_q : b1 < q1) (V_q1 : Arv Z h0 q1 k1 .long (16 : Int32) [(.long x0), (.long x1), (.long x2), (.long x3), (.long x4), (.long x5), (.long (0 : Int64)), (.long (0 : Int64)), (.long (0 : Int64)), (.long (0 : Int64)), (.long (0 : Int64)), (.long (0 : Int64)), (.long (0 : Int64)), (.long (0 : Int64)), (.long (0 : Int64)), (.long (0 : Int64))] (.long (0 : Int64))) :
    MetFree l (⟨"com/example/kdata/kdata/LongHeap", "removeLeast", "()J"⟩ : MethodName) (head1 (Jvm.Cond.code (⟨"com/example/kdata/kdata/LongHeap", "removeLeast", "()J"⟩ : MethodName) prog_81_method_4_code 7 (some .long) :: ws) ({ frames := 0, cells := 0, slots := 0, locals := 0 } : Room)) (fun a U => a = #[(.ref b1)] ∧ Z.Warmed39 U.vm ∧ U.heap = h0) (fun _ _ _ _ _ => True) (fun _ U o U' => ∃ v L, o = .returned v ∧ Qr2 Z b1 q1 k1 x0 x1 x2 x3 x4 x5 h0 n0 v U'.heap L ∧ FrameEnd U o U' L ({ frames := 0, cells := 0, slots := 0, locals := 0 } : Room).cells ({ frames := 0, cells := 0, slots := 0, locals := 0 } : Room).slots) := by
  refine MetFree.of_bodySF (plainFor_of_name pn_r2) hisR ?_
  intro p e s m args below meth c s₁ Bd hml0 hP hK
  obtain ⟨rfl, hZ, hh⟩ := hP
  have hx := Bd.exec
  have hby := Bd.bytes
  have hml : c.maxLocals = 7 := hml0
  have hown : s.vm.findClass "com/example/kdata/kdata/LongHeap" = some m.cls := findClass_of_methodNamed Bd.named
  have hnm := (name_of_methodNamed Bd.named Bd.method).1
  have X0 : Stand p l e ({ frames := 0, cells := 0, slots := 0, locals := 0 } : Room) s m #[(.ref b1)] below meth c s₁ [] 0 0 := Stand.of_body Bd
  have e0 : s₁.heap = h0 := by rw [← hh, Bd.state]; rfl
  have N0 := Fr.nil n0
  show own_Go p e below s (Qr2 Z b1 q1 k1 x0 x1 x2 x3 x4 x5 h0 n0) ({ frames := 0, cells := 0, slots := 0, locals := 0 } : Room).cells ({ frames := 0, cells := 0, slots := 0, locals := 0 } : Room).slots (s₁.setTop (entryFrame m #[(.ref b1)] 7))
  refine own_go (b := s₁.setTop (mkF m 0 #[.val (.ref b1), .unset, .unset, .unset, .unset, .unset, .unset] [])) (fun t k => castTop (ef_r2 m b1) k) ?_
  have K0 := Keep.refl h0 [b1, q1]
  obtain ⟨T1, X1, e1, st1⟩ := getF X0 hx hZ hown (host := "") (Or.inl (hw _ (List.mem_of_getElem? (i := 14) rfl))) Via.refl e0 F_d (g := (mkF m 1 #[.val (.ref b1), .unset, .unset, .unset, .unset, .unset, .unset] [(.ref b1)])) rfl rfl (hb hby dR_1)
  obtain ⟨cl2, Ar2, q2, S2, M2, H2, U2⟩ := id V_q1
  have hi3 : ¬ (0 : Int32) < 0 ∧ (0 : Int32).toNatClampNeg < (16 : Int32).toNatClampNeg := by decide
  have ha3 : cl2.slots[(0 : Int32).toNatClampNeg]? = some (.long x0) := H2 _ (by rw [S2]; exact hi3.2)
  obtain ⟨T4, X4, e4, st4⟩ := getF X1 hx hZ hown (host := "") (Or.inl (hw _ (List.mem_of_getElem? (i := 14) rfl))) Via.refl e1 F_d (g := (mkF m 8 #[.val (.ref b1), .val (.long x0), .second, .unset, .unset, .unset, .unset] [(.ref b1)])) rfl rfl (hb hby dR_8)
  obtain ⟨T5, X5, e5, st5⟩ := getF X4 hx hZ hown (host := "") (Or.inl (hw _ (List.mem_of_getElem? (i := 21) rfl))) Via.refl e4 F_s (g := (mkF m 13 #[.val (.ref b1), .val (.long x0), .second, .unset, .unset, .unset, .unset] [(.ref b1), (.ref b1), (.ref q1)])) rfl rfl (hb hby dR_13)
  obtain ⟨T6, h6, X6, e6, W6, st6⟩ := putF X5 hx hZ hown (host := "") (Or.inl (hw _ (List.mem_of_getElem? (i := 21) rfl))) Via.refl e5 F_s E_b1 (Or.inl (hw _ (List.mem_of_getElem? (i := 22) rfl))) (hw _ (List.mem_of_getElem? (i := 6) rfl)) (ty := .int) (by decide) rfl rfl (g := (mkF m 19 #[.val (.ref b1), .val (.long x0), .second, .unset, .unset, .unset, .unset] [(.int (1 : Int32)), (.ref b1), (.int (1 : Int32)), (.ref q1)])) rfl rfl (hb hby dR_19)
  have N6 := Fr.snoc X6 N0 lo_b1
  obtain ⟨lc6, X6, N6⟩ := own_lc X6 N6
  have K6 := K0.wr W6 (Or.inl (List.mem_of_getElem? (i := 0) rfl))
  have F7 : Fld Z h6 b1 "com/example/kdata/kdata/LongHeap" "size" "I" (.int (1 : Int32)) := F_s.same W6
  have F8 := F_d.other W6 (Or.inr (slot_ne (Or.inl (hw _ (List.mem_of_getElem? (i := 15) rfl))) (Or.inl (hw _ (List.mem_of_getElem? (i := 22) rfl))) (by decide) (t := (.array .long)) (t' := .int) (by decide) (by decide)))
  have E9 := E_b1.wr W6
  have V10 := V_q1.other W6 (Nat.ne_of_gt lt_q)
  have Z6 : n0 ≤ h6.size := by rw [W6.size]; exact Z0
  obtain ⟨cl11, Ar11, q11, S11, M11, H11, U11⟩ := id V10
  have hi12 : ¬ (1 : Int32) < 0 ∧ (1 : Int32).toNatClampNeg < (16 : Int32).toNatClampNeg := by decide
  have ha12 : cl11.slots[(1 : Int32).toNatClampNeg]? = some (.long x1) := H11 _ (by rw [S11]; exact hi12.2)
  obtain ⟨T13, X13, e13, st13⟩ := getF X6 hx hZ hown (host := "") (Or.inl (hw _ (List.mem_of_getElem? (i := 21) rfl))) Via.refl e6 F7 (g := (mkF m 33 #[.val (.ref b1), .val (.long x0), .second, .val (.long x1), .second, .val (.int (0 : Int32)), .val (.int (1 : Int32))] [(.ref b1), (.int (1 : Int32))])) rfl rfl (hb hby dR_33)
  have hc36_14 : ¬ ((1 : Int32) < (1 : Int32)) := (by decide)
  obtain ⟨T15, X15, e15, st15⟩ := getF X13 hx hZ hown (host := "") (Or.inl (hw _ (List.mem_of_getElem? (i := 14) rfl))) Via.refl e13 F8 (g := (mkF m 118 #[.val (.ref b1), .val (.long x0), .second, .val (.long x1), .second, .val (.int (0 : Int32)), .val (.int (1 : Int32))] [(.ref b1)])) rfl rfl (hb hby dR_118)
  obtain ⟨T16, h16, X16, e16, W16, st16⟩ := stJ X15 hx hZ e15 Ar11 (j := (0 : Int32)) (by rw [S11]; decide) (g := (mkF m 124 #[.val (.ref b1), .val (.long x0), .second, .val (.long x1), .second, .val (.int (0 : Int32)), .val (.int (1 : Int32))] [(.long x1), (.int (0 : Int32)), (.ref q1)])) rfl rfl (hb hby dR_124)
  have N16 := Fr.snoc X16 N6 lo_q1
  obtain ⟨lc16, X16, N16⟩ := own_lc X16 N16
  have V17 : Arv Z h16 q1 k1 .long (16 : Int32) [(.long x1), (.long x1), (.long x2), (.long x3), (.long x4), (.long x5), (.long (0 : Int64)), (.long (0 : Int64)), (.long (0 : Int64)), (.long (0 : Int64)), (.long (0 : Int64)), (.long (0 : Int64)), (.long (0 : Int64)), (.long (0 : Int64)), (.long (0 : Int64)), (.long (0 : Int64))] (.long (0 : Int64)) := Arv.set Ar11 q11 S11 M11 H11 U11 rfl W16 0 rfl (by show 0 < 16; decide)
  have K16 := K6.wr W16 (Or.inl (List.mem_of_getElem? (i := 1) rfl))
  have F18 := F8.other W16 (Or.inl (Nat.ne_of_lt lt_q))
  have F19 := F7.other W16 (Or.inl (Nat.ne_of_lt lt_q))
  have E20 := E9.wr W16
  have Z16 : n0 ≤ h16.size := by rw [W16.size]; exact Z6
  refine own_end X16 Bd.notSynchronized (v := some (.long x0)) (fun h => by rw [Bd.returns] at h; cases h) (fun fs hr => ?_) e16 ?_ (by decide) (by decide)
  · show Steps p.tables e below (s₁.setTop (mkF m 0 #[.val (.ref b1), .unset, .unset, .unset, .unset, .unset, .unset] [])) _
    refine XS.aloadN X0.here hx rfl (hb hby dR_0) rfl rfl ?_
    show Steps p.tables e below (s₁.setTop (mkF m 1 #[.val (.ref b1), .unset, .unset, .unset, .unset, .unset, .unset] [(.ref b1)])) _
    refine st1 _ ?_
    show Steps p.tables e below (T1.setTop (mkF m 4 #[.val (.ref b1), .unset, .unset, .unset, .unset, .unset, .unset] [(.ref q1)])) _
    refine XS.iconst X1.here hx rfl (hb hby dR_4) ?_
    show Steps p.tables e below (T1.setTop (mkF m 5 #[.val (.ref b1), .unset, .unset, .unset, .unset, .unset, .unset] [(.int (0 : Int32)), (.ref q1)])) _
    refine X1.laload hx (j := (0 : Int32)) (v := (.long x0)) (by rw [e1]; exact Ar2.1) (State.isArrayOf_alike hZ.alike Ar2.2.1) Ar2.2.2 (own_hin S2 hi3) ha3 (g := (mkF m 5 #[.val (.ref b1), .unset, .unset, .unset, .unset, .unset, .unset] [(.int (0 : Int32)), (.ref q1)])) rfl rfl (hb hby dR_5) _ ?_
    show Steps p.tables e below (T1.setTop (mkF m 6 #[.val (.ref b1), .unset, .unset, .unset, .unset, .unset, .unset] [(.long x0)])) _
    refine XS.lstoreN X1.here hx rfl (hb hby dR_6) rfl (l' := #[.val (.ref b1), .val (.long x0), .second, .unset, .unset, .unset, .unset]) rfl ?_
    show Steps p.tables e below (T1.setTop (mkF m 7 #[.val (.ref b1), .val (.long x0), .second, .unset, .unset, .unset, .unset] [])) _
    refine XS.aloadN X1.here hx rfl (hb hby dR_7) rfl rfl ?_
    show Steps p.tables e below (T1.setTop (mkF m 8 #[.val (.ref b1), .val (.long x0), .second, .unset, .unset, .unset, .unset] [(.ref b1)])) _
    refine st4 _ ?_
    show Steps p.tables e below (T4.setTop (mkF m 11 #[.val (.ref b1), .val (.long x0), .second, .unset, .unset, .unset, .unset] [(.ref q1)])) _
    refine XS.aloadN X4.here hx rfl (hb hby dR_11) rfl rfl ?_
    show Steps p.tables e below (T4.setTop (mkF m 12 #[.val (.ref b1), .val (.long x0), .second, .unset, .unset, .unset, .unset] [(.ref b1), (.ref q1)])) _
    refine XS.dup X4.here hx rfl (hb hby dR_12) rfl rfl ?_
    show Steps p.tables e below (T4.setTop (mkF m 13 #[.val (.ref b1), .val (.long x0), .second, .unset, .unset, .unset, .unset] [(.ref b1), (.ref b1), (.ref q1)])) _
    refine st5 _ ?_
    show Steps p.tables e below (T5.setTop (mkF m 16 #[.val (.ref b1), .val (.long x0), .second, .unset, .unset, .unset, .unset] [(.int (2 : Int32)), (.ref b1), (.ref q1)])) _
    refine XS.iconst X5.here hx rfl (hb hby dR_16) ?_
    show Steps p.tables e below (T5.setTop (mkF m 17 #[.val (.ref b1), .val (.long x0), .second, .unset, .unset, .unset, .unset] [(.int (1 : Int32)), (.int (2 : Int32)), (.ref b1), (.ref q1)])) _
    refine XS.isub X5.here hx rfl (hb hby dR_17) rfl ?_
    show Steps p.tables e below (T5.setTop (mkF m 18 #[.val (.ref b1), .val (.long x0), .second, .unset, .unset, .unset, .unset] [(.int (1 : Int32)), (.ref b1), (.ref q1)])) _
    refine XS.dupX1 X5.here hx rfl (hb hby dR_18) rfl rfl rfl ?_
    show Steps p.tables e below (T5.setTop (mkF m 19 #[.val (.ref b1), .val (.long x0), .second, .unset, .unset, .unset, .unset] [(.int (1 : Int32)), (.ref b1), (.int (1 : Int32)), (.ref q1)])) _
    refine st6 _ ?_
    show Steps p.tables e below (T6.setTop (mkF m 22 #[.val (.ref b1), .val (.long x0), .second, .unset, .unset, .unset, .unset] [(.int (1 : Int32)), (.ref q1)])) _
    refine X6.laload hx (j := (1 : Int32)) (v := (.long x1)) (by rw [e6]; exact Ar11.1) (State.isArrayOf_alike hZ.alike Ar11.2.1) Ar11.2.2 (own_hin S11 hi12) ha12 (g := (mkF m 22 #[.val (.ref b1), .val (.long x0), .second, .unset, .unset, .unset, .unset] [(.int (1 : Int32)), (.ref q1)])) rfl rfl (hb hby dR_22) _ ?_
    show Steps p.tables e below (T6.setTop (mkF m 23 #[.val (.ref b1), .val (.long x0), .second, .unset, .unset, .unset, .unset] [(.long x1)])) _
    refine XS.lstoreN X6.here hx rfl (hb hby dR_23) rfl (l' := #[.val (.ref b1), .val (.long x0), .second, .val (.long x1), .second, .unset, .unset]) rfl ?_
    show Steps p.tables e below (T6.setTop (mkF m 24 #[.val (.ref b1), .val (.long x0), .second, .val (.long x1), .second, .unset, .unset] [])) _
    refine XS.iconst X6.here hx rfl (hb hby dR_24) ?_
    show Steps p.tables e below (T6.setTop (mkF m 25 #[.val (.ref b1), .val (.long x0), .second, .val (.long x1), .second, .unset, .unset] [(.int (0 : Int32))])) _
    refine XS.istore X6.here hx rfl (hb hby dR_25) rfl (l' := #[.val (.ref b1), .val (.long x0), .second, .val (.long x1), .second, .val (.int (0 : Int32)), .unset]) rfl ?_
    show Steps p.tables e below (T6.setTop (mkF m 27 #[.val (.ref b1), .val (.long x0), .second, .val (.long x1), .second, .val (.int (0 : Int32)), .unset] [])) _
    refine XS.iconst X6.here hx rfl (hb hby dR_27) ?_
    show Steps p.tables e below (T6.setTop (mkF m 28 #[.val (.ref b1), .val (.long x0), .second, .val (.long x1), .second, .val (.int (0 : Int32)), .unset] [(.int (1 : Int32))])) _
    refine XS.istore X6.here hx rfl (hb hby dR_28) rfl (l' := #[.val (.ref b1), .val (.long x0), .second, .val (.long x1), .second, .val (.int (0 : Int32)), .val (.int (1 : Int32))]) rfl ?_
    show Steps p.tables e below (T6.setTop (mkF m 30 #[.val (.ref b1), .val (.long x0), .second, .val (.long x1), .second, .val (.int (0 : Int32)), .val (.int (1 : Int32))] [])) _
    refine XS.iload X6.here hx rfl (hb hby dR_30) rfl ?_
    show Steps p.tables e below (T6.setTop (mkF m 32 #[.val (.ref b1), .val (.long x0), .second, .val (.long x1), .second, .val (.int (0 : Int32)), .val (.int (1 : Int32))] [(.int (1 : Int32))])) _
    refine XS.aloadN X6.here hx rfl (hb hby dR_32) rfl rfl ?_
    show Steps p.tables e below (T6.setTop (mkF m 33 #[.val (.ref b1), .val (.long x0), .second, .val (.long x1), .second, .val (.int (0 : Int32)), .val (.int (1 : Int32))] [(.ref b1), (.int (1 : Int32))])) _
    refine st13 _ ?_
    show Steps p.tables e below (T13.setTop (mkF m 36 #[.val (.ref b1), .val (.long x0), .second, .val (.long x1), .second, .val (.int (0 : Int32)), .val (.int (1 : Int32))] [(.int (1 : Int32)), (.int (1 : Int32))])) _
    refine XS.icmpYes X13.here hx rfl (pc0 := 36) (pc' := 117) rfl (hb hby dR_36) rfl (flt hc36_14).2.1 (by decide) (by decide) ?_
    show Steps p.tables e below (T13.setTop (mkF m 117 #[.val (.ref b1), .val (.long x0), .second, .val (.long x1), .second, .val (.int (0 : Int32)), .val (.int (1 : Int32))] [])) _
    refine XS.aloadN X13.here hx rfl (hb hby dR_117) rfl rfl ?_
    show Steps p.tables e below (T13.setTop (mkF m 118 #[.val (.ref b1), .val (.long x0), .second, .val (.long x1), .second, .val (.int (0 : Int32)), .val (.int (1 : Int32))] [(.ref b1)])) _
    refine st15 _ ?_
    show Steps p.tables e below (T15.setTop (mkF m 121 #[.val (.ref b1), .val (.long x0), .second, .val (.long x1), .second, .val (.int (0 : Int32)), .val (.int (1 : Int32))] [(.ref q1)])) _
    refine XS.iload X15.here hx rfl (hb hby dR_121) rfl ?_
    show Steps p.tables e below (T15.setTop (mkF m 123 #[.val (.ref b1), .val (.long x0), .second, .val (.long x1), .second, .val (.int (0 : Int32)), .val (.int (1 : Int32))] [(.int (0 : Int32)), (.ref q1)])) _
    refine XS.lloadN X15.here hx rfl (hb hby dR_123) rfl ?_
    show Steps p.tables e below (T15.setTop (mkF m 124 #[.val (.ref b1), .val (.long x0), .second, .val (.long x1), .second, .val (.int (0 : Int32)), .val (.int (1 : Int32))] [(.long x1), (.int (0 : Int32)), (.ref q1)])) _
    refine st16 _ ?_
    show Steps p.tables e below (T16.setTop (mkF m 125 #[.val (.ref b1), .val (.long x0), .second, .val (.long x1), .second, .val (.int (0 : Int32)), .val (.int (1 : Int32))] [])) _
    refine XS.lloadN X16.here hx rfl (hb hby dR_125) rfl ?_
    show Steps p.tables e below (T16.setTop (mkF m 126 #[.val (.ref b1), .val (.long x0), .second, .val (.long x1), .second, .val (.int (0 : Int32)), .val (.int (1 : Int32))] [(.long x0)])) _
    exact X16.lreturnOut hx Bd.returns (hb hby dR_126) hr
  · exact ⟨rfl, N16, K16, E20, F18, F19, _, _, _, _, _, _, by rw [own_rem_2], V17⟩
def own_rem_1 (x0 : Int64) (x1 : Int64) (x2 : Int64) (x3 : Int64) (x4 : Int64) (x5 : Int64) : List Int64 :=
  [x0, x1, x2, x3, x4, x5]
theorem pn_r1 : plainName "com/example/kdata/kdata/LongHeap" = true := by first | (simp [plainName, overriddenIn]; done) | decide +kernel
theorem ef_r1 (m : MethodId) (x0 : Addr) : entryFrame m #[(.ref x0)] 7 = mkF m 0 #[.val (.ref x0), .unset, .unset, .unset, .unset, .unset, .unset] [] := by first | (simp [entryFrame, mkF, argsToLocals, Value.category]; done) | rfl
def Qr1 (Z : State) (b1 q1 : Addr) (k1 : ClassId) (x0 : Int64) (x1 : Int64) (x2 : Int64) (x3 : Int64) (x4 : Int64) (x5 : Int64) (h0 : Heap) (n0 : Nat) (v : Option Value) (h : Heap) (L : List Loc) : Prop := v = some (.long x0) ∧ Fr n0 L ∧ Keep h0 h [b1, q1] ∧ Exa Z h b1 "com/example/kdata/kdata/LongHeap" ∧ Fld Z h b1 "com/example/kdata/kdata/LongHeap" "data" "[J" (.ref q1) ∧ Fld Z h b1 "com/example/kdata/kdata/LongHeap" "size" "I" (.int (0 : Int32)) ∧ ∃ z0 z1 z2 z3 z4 z5 : Int64, [z0, z1, z2, z3, z4, z5] = own_rem_1 x0 x1 x2 x3 x4 x5 ∧ Arv Z h q1 k1 .long (16 : Int32) [(.long z0), (.long z1), (.long z2), (.long z3), (.long z4), (.long z5), (.long (0 : Int64)), (.long (0 : Int64)), (.long (0 : Int64)), (.long (0 : Int64)), (.long (0 : Int64)), (.long (0 : Int64)), (.long (0 : Int64)), (.long (0 : Int64)), (.long (0 : Int64)), (.long (0 : Int64))] (.long (0 : Int64))
set_option maxRecDepth 65536 in
set_option maxHeartbeats 40000000 in
theorem rmr1 (l : Launch) (Z : State) (a0 : Array Value) (hw : ∀ d ∈ tables_1, d.before a0 Z = true) (ws : List Jvm.Cond)  (b1 q1 : Addr) (k1 : ClassId) (x0 : Int64) (x1 : Int64) (x2 : Int64) (x3 : Int64) (x4 : Int64) (x5 : Int64) (h0 : Heap) (n0 : Nat) (Z0 : n0 ≤ h0.size) (F_d : Fld Z h0 b1 "com/example/kdata/kdata/LongHeap" "data" "[J" (.ref q1)) (F_s : Fld Z h0 b1 "com/example/kdata/kdata/LongHeap" "size" "I" (.int (1 : Int32))) (E_b1 : Exa Z h0 b1 "com/example/kdata/kdata/LongHeap") (lo_b1 : n0 ≤ b1) (lo_q1 : n0 ≤ q1) (lt_q : b1 < q1) (V_q1 : Arv Z h0 q1 k1 .long (16 : Int32) [(.long x0), (.long x1), (.long x2), (.long x3), (.long x4), (.long x5), (.long (0 : Int64)), (.long (0 : Int64)), (.long (0 : Int64)), (.long (0 : Int64)), (.long (0 : Int64)), (.long (0 : Int64)), (.long (0 : Int64)), (.long (0 : Int64)), (.long (0 : Int64)), (.long (0 : Int64))] (.long (0 : Int64))) :
    MetFree l (⟨"com/example/kdata/kdata/LongHeap", "removeLeast", "()J"⟩ : MethodName) (head1 (Jvm.Cond.code (⟨"com/example/kdata/kdata/LongHeap", "removeLeast", "()J"⟩ : MethodName) prog_81_method_4_code 7 (some .long) :: ws) ({ frames := 0, cells := 0, slots := 0, locals := 0 } : Room)) (fun a U => a = #[(.ref b1)] ∧ Z.Warmed39 U.vm ∧ U.heap = h0) (fun _ _ _ _ _ => True) (fun _ U o U' => ∃ v L, o = .returned v ∧ Qr1 Z b1 q1 k1 x0 x1 x2 x3 x4 x5 h0 n0 v U'.heap L ∧ FrameEnd U o U' L ({ frames := 0, cells := 0, slots := 0, locals := 0 } : Room).cells ({ frames := 0, cells := 0, slots := 0, locals := 0 } : Room).slots) := by
  refine MetFree.of_bodySF (plainFor_of_name pn_r1) hisR ?_
  intro p e s m args below meth c s₁ Bd hml0 hP hK
  obtain ⟨rfl, hZ, hh⟩ := hP
  have hx := Bd.exec
  have hby := Bd.bytes
  have hml : c.maxLocals = 7 := hml0
  have hown : s.vm.findClass "com/example/kdata/kdata/LongHeap" = some m.cls := findClass_of_methodNamed Bd.named
  have hnm := (name_of_methodNamed Bd.named Bd.method).1
  have X0 : Stand p l e ({ frames := 0, cells := 0, slots := 0, locals := 0 } : Room) s m #[(.ref b1)] below meth c s₁ [] 0 0 := Stand.of_body Bd
  have e0 : s₁.heap = h0 := by rw [← hh, Bd.state]; rfl
  have N0 := Fr.nil n0
  show own_Go p e below s (Qr1 Z b1 q1 k1 x0 x1 x2 x3 x4 x5 h0 n0) ({ frames := 0, cells := 0, slots := 0, locals := 0 } : Room).cells ({ frames := 0, cells := 0, slots := 0, locals := 0 } : Room).slots (s₁.setTop (entryFrame m #[(.ref b1)] 7))
  refine own_go (b := s₁.setTop (mkF m 0 #[.val (.ref b1), .unset, .unset, .unset, .unset, .unset, .unset] [])) (fun t k => castTop (ef_r1 m b1) k) ?_
  have K0 := Keep.refl h0 [b1, q1]
  obtain ⟨T1, X1, e1, st1⟩ := getF X0 hx hZ hown (host := "") (Or.inl (hw _ (List.mem_of_getElem? (i := 14) rfl))) Via.refl e0 F_d (g := (mkF m 1 #[.val (.ref b1), .unset, .unset, .unset, .unset, .unset, .unset] [(.ref b1)])) rfl rfl (hb hby dR_1)
  obtain ⟨cl2, Ar2, q2, S2, M2, H2, U2⟩ := id V_q1
  have hi3 : ¬ (0 : Int32) < 0 ∧ (0 : Int32).toNatClampNeg < (16 : Int32).toNatClampNeg := by decide
  have ha3 : cl2.slots[(0 : Int32).toNatClampNeg]? = some (.long x0) := H2 _ (by rw [S2]; exact hi3.2)
  obtain ⟨T4, X4, e4, st4⟩ := getF X1 hx hZ hown (host := "") (Or.inl (hw _ (List.mem_of_getElem? (i := 14) rfl))) Via.refl e1 F_d (g := (mkF m 8 #[.val (.ref b1), .val (.long x0), .second, .unset, .unset, .unset, .unset] [(.ref b1)])) rfl rfl (hb hby dR_8)
  obtain ⟨T5, X5, e5, st5⟩ := getF X4 hx hZ hown (host := "") (Or.inl (hw _ (List.mem_of_getElem? (i := 21) rfl))) Via.refl e4 F_s (g := (mkF m 13 #[.val (.ref b1), .val (.long x0), .second, .unset, .unset, .unset, .unset] [(.ref b1), (.ref b1), (.ref q1)])) rfl rfl (hb hby dR_13)
  obtain ⟨T6, h6, X6, e6, W6, st6⟩ := putF X5 hx hZ hown (host := "") (Or.inl (hw _ (List.mem_of_getElem? (i := 21) rfl))) Via.refl e5 F_s E_b1 (Or.inl (hw _ (List.mem_of_getElem? (i := 22) rfl))) (hw _ (List.mem_of_getElem? (i := 6) rfl)) (ty := .int) (by decide) rfl rfl (g := (mkF m 19 #[.val (.ref b1), .val (.long x0), .second, .unset, .unset, .unset, .unset] [(.int (0 : Int32)), (.ref b1), (.int (0 : Int32)), (.ref q1)])) rfl rfl (hb hby dR_19)
  have N6 := Fr.snoc X6 N0 lo_b1
  obtain ⟨lc6, X6, N6⟩ := own_lc X6 N6
  have K6 := K0.wr W6 (Or.inl (List.mem_of_getElem? (i := 0) rfl))
  have F7 : Fld Z h6 b1 "com/example/kdata/kdata/LongHeap" "size" "I" (.int (0 : Int32)) := F_s.same W6
  have F8 := F_d.other W6 (Or.inr (slot_ne (Or.inl (hw _ (List.mem_of_getElem? (i := 15) rfl))) (Or.inl (hw _ (List.mem_of_getElem? (i := 22) rfl))) (by decide) (t := (.array .long)) (t' := .int) (by decide) (by decide)))
  have E9 := E_b1.wr W6
  have V10 := V_q1.other W6 (Nat.ne_of_gt lt_q)
  have Z6 : n0 ≤ h6.size := by rw [W6.size]; exact Z0
  obtain ⟨cl11, Ar11, q11, S11, M11, H11, U11⟩ := id V10
  have hi12 : ¬ (0 : Int32) < 0 ∧ (0 : Int32).toNatClampNeg < (16 : Int32).toNatClampNeg := by decide
  have ha12 : cl11.slots[(0 : Int32).toNatClampNeg]? = some (.long x0) := H11 _ (by rw [S11]; exact hi12.2)
  obtain ⟨T13, X13, e13, st13⟩ := getF X6 hx hZ hown (host := "") (Or.inl (hw _ (List.mem_of_getElem? (i := 21) rfl))) Via.refl e6 F7 (g := (mkF m 33 #[.val (.ref b1), .val (.long x0), .second, .val (.long x0), .second, .val (.int (0 : Int32)), .val (.int (1 : Int32))] [(.ref b1), (.int (1 : Int32))])) rfl rfl (hb hby dR_33)
  have hc36_14 : ¬ ((1 : Int32) < (0 : Int32)) := (by decide)
  obtain ⟨T15, X15, e15, st15⟩ := getF X13 hx hZ hown (host := "") (Or.inl (hw _ (List.mem_of_getElem? (i := 14) rfl))) Via.refl e13 F8 (g := (mkF m 118 #[.val (.ref b1), .val (.long x0), .second, .val (.long x0), .second, .val (.int (0 : Int32)), .val (.int (1 : Int32))] [(.ref b1)])) rfl rfl (hb hby dR_118)
  obtain ⟨T16, h16, X16, e16, W16, st16⟩ := stJ X15 hx hZ e15 Ar11 (j := (0 : Int32)) (by rw [S11]; decide) (g := (mkF m 124 #[.val (.ref b1), .val (.long x0), .second, .val (.long x0), .second, .val (.int (0 : Int32)), .val (.int (1 : Int32))] [(.long x0), (.int (0 : Int32)), (.ref q1)])) rfl rfl (hb hby dR_124)
  have N16 := Fr.snoc X16 N6 lo_q1
  obtain ⟨lc16, X16, N16⟩ := own_lc X16 N16
  have V17 : Arv Z h16 q1 k1 .long (16 : Int32) [(.long x0), (.long x1), (.long x2), (.long x3), (.long x4), (.long x5), (.long (0 : Int64)), (.long (0 : Int64)), (.long (0 : Int64)), (.long (0 : Int64)), (.long (0 : Int64)), (.long (0 : Int64)), (.long (0 : Int64)), (.long (0 : Int64)), (.long (0 : Int64)), (.long (0 : Int64))] (.long (0 : Int64)) := Arv.set Ar11 q11 S11 M11 H11 U11 rfl W16 0 rfl (by show 0 < 16; decide)
  have K16 := K6.wr W16 (Or.inl (List.mem_of_getElem? (i := 1) rfl))
  have F18 := F8.other W16 (Or.inl (Nat.ne_of_lt lt_q))
  have F19 := F7.other W16 (Or.inl (Nat.ne_of_lt lt_q))
  have E20 := E9.wr W16
  have Z16 : n0 ≤ h16.size := by rw [W16.size]; exact Z6
  refine own_end X16 Bd.notSynchronized (v := some (.long x0)) (fun h => by rw [Bd.returns] at h; cases h) (fun fs hr => ?_) e16 ?_ (by decide) (by decide)
  · show Steps p.tables e below (s₁.setTop (mkF m 0 #[.val (.ref b1), .unset, .unset, .unset, .unset, .unset, .unset] [])) _
    refine XS.aloadN X0.here hx rfl (hb hby dR_0) rfl rfl ?_
    show Steps p.tables e below (s₁.setTop (mkF m 1 #[.val (.ref b1), .unset, .unset, .unset, .unset, .unset, .unset] [(.ref b1)])) _
    refine st1 _ ?_
    show Steps p.tables e below (T1.setTop (mkF m 4 #[.val (.ref b1), .unset, .unset, .unset, .unset, .unset, .unset] [(.ref q1)])) _
    refine XS.iconst X1.here hx rfl (hb hby dR_4) ?_
    show Steps p.tables e below (T1.setTop (mkF m 5 #[.val (.ref b1), .unset, .unset, .unset, .unset, .unset, .unset] [(.int (0 : Int32)), (.ref q1)])) _
    refine X1.laload hx (j := (0 : Int32)) (v := (.long x0)) (by rw [e1]; exact Ar2.1) (State.isArrayOf_alike hZ.alike Ar2.2.1) Ar2.2.2 (own_hin S2 hi3) ha3 (g := (mkF m 5 #[.val (.ref b1), .unset, .unset, .unset, .unset, .unset, .unset] [(.int (0 : Int32)), (.ref q1)])) rfl rfl (hb hby dR_5) _ ?_
    show Steps p.tables e below (T1.setTop (mkF m 6 #[.val (.ref b1), .unset, .unset, .unset, .unset, .unset, .unset] [(.long x0)])) _
    refine XS.lstoreN X1.here hx rfl (hb hby dR_6) rfl (l' := #[.val (.ref b1), .val (.long x0), .second, .unset, .unset, .unset, .unset]) rfl ?_
    show Steps p.tables e below (T1.setTop (mkF m 7 #[.val (.ref b1), .val (.long x0), .second, .unset, .unset, .unset, .unset] [])) _
    refine XS.aloadN X1.here hx rfl (hb hby dR_7) rfl rfl ?_
    show Steps p.tables e below (T1.setTop (mkF m 8 #[.val (.ref b1), .val (.long x0), .second, .unset, .unset, .unset, .unset] [(.ref b1)])) _
    refine st4 _ ?_
    show Steps p.tables e below (T4.setTop (mkF m 11 #[.val (.ref b1), .val (.long x0), .second, .unset, .unset, .unset, .unset] [(.ref q1)])) _
    refine XS.aloadN X4.here hx rfl (hb hby dR_11) rfl rfl ?_
    show Steps p.tables e below (T4.setTop (mkF m 12 #[.val (.ref b1), .val (.long x0), .second, .unset, .unset, .unset, .unset] [(.ref b1), (.ref q1)])) _
    refine XS.dup X4.here hx rfl (hb hby dR_12) rfl rfl ?_
    show Steps p.tables e below (T4.setTop (mkF m 13 #[.val (.ref b1), .val (.long x0), .second, .unset, .unset, .unset, .unset] [(.ref b1), (.ref b1), (.ref q1)])) _
    refine st5 _ ?_
    show Steps p.tables e below (T5.setTop (mkF m 16 #[.val (.ref b1), .val (.long x0), .second, .unset, .unset, .unset, .unset] [(.int (1 : Int32)), (.ref b1), (.ref q1)])) _
    refine XS.iconst X5.here hx rfl (hb hby dR_16) ?_
    show Steps p.tables e below (T5.setTop (mkF m 17 #[.val (.ref b1), .val (.long x0), .second, .unset, .unset, .unset, .unset] [(.int (1 : Int32)), (.int (1 : Int32)), (.ref b1), (.ref q1)])) _
    refine XS.isub X5.here hx rfl (hb hby dR_17) rfl ?_
    show Steps p.tables e below (T5.setTop (mkF m 18 #[.val (.ref b1), .val (.long x0), .second, .unset, .unset, .unset, .unset] [(.int (0 : Int32)), (.ref b1), (.ref q1)])) _
    refine XS.dupX1 X5.here hx rfl (hb hby dR_18) rfl rfl rfl ?_
    show Steps p.tables e below (T5.setTop (mkF m 19 #[.val (.ref b1), .val (.long x0), .second, .unset, .unset, .unset, .unset] [(.int (0 : Int32)), (.ref b1), (.int (0 : Int32)), (.ref q1)])) _
    refine st6 _ ?_
    show Steps p.tables e below (T6.setTop (mkF m 22 #[.val (.ref b1), .val (.long x0), .second, .unset, .unset, .unset, .unset] [(.int (0 : Int32)), (.ref q1)])) _
    refine X6.laload hx (j := (0 : Int32)) (v := (.long x0)) (by rw [e6]; exact Ar11.1) (State.isArrayOf_alike hZ.alike Ar11.2.1) Ar11.2.2 (own_hin S11 hi12) ha12 (g := (mkF m 22 #[.val (.ref b1), .val (.long x0), .second, .unset, .unset, .unset, .unset] [(.int (0 : Int32)), (.ref q1)])) rfl rfl (hb hby dR_22) _ ?_
    show Steps p.tables e below (T6.setTop (mkF m 23 #[.val (.ref b1), .val (.long x0), .second, .unset, .unset, .unset, .unset] [(.long x0)])) _
    refine XS.lstoreN X6.here hx rfl (hb hby dR_23) rfl (l' := #[.val (.ref b1), .val (.long x0), .second, .val (.long x0), .second, .unset, .unset]) rfl ?_
    show Steps p.tables e below (T6.setTop (mkF m 24 #[.val (.ref b1), .val (.long x0), .second, .val (.long x0), .second, .unset, .unset] [])) _
    refine XS.iconst X6.here hx rfl (hb hby dR_24) ?_
    show Steps p.tables e below (T6.setTop (mkF m 25 #[.val (.ref b1), .val (.long x0), .second, .val (.long x0), .second, .unset, .unset] [(.int (0 : Int32))])) _
    refine XS.istore X6.here hx rfl (hb hby dR_25) rfl (l' := #[.val (.ref b1), .val (.long x0), .second, .val (.long x0), .second, .val (.int (0 : Int32)), .unset]) rfl ?_
    show Steps p.tables e below (T6.setTop (mkF m 27 #[.val (.ref b1), .val (.long x0), .second, .val (.long x0), .second, .val (.int (0 : Int32)), .unset] [])) _
    refine XS.iconst X6.here hx rfl (hb hby dR_27) ?_
    show Steps p.tables e below (T6.setTop (mkF m 28 #[.val (.ref b1), .val (.long x0), .second, .val (.long x0), .second, .val (.int (0 : Int32)), .unset] [(.int (1 : Int32))])) _
    refine XS.istore X6.here hx rfl (hb hby dR_28) rfl (l' := #[.val (.ref b1), .val (.long x0), .second, .val (.long x0), .second, .val (.int (0 : Int32)), .val (.int (1 : Int32))]) rfl ?_
    show Steps p.tables e below (T6.setTop (mkF m 30 #[.val (.ref b1), .val (.long x0), .second, .val (.long x0), .second, .val (.int (0 : Int32)), .val (.int (1 : Int32))] [])) _
    refine XS.iload X6.here hx rfl (hb hby dR_30) rfl ?_
    show Steps p.tables e below (T6.setTop (mkF m 32 #[.val (.ref b1), .val (.long x0), .second, .val (.long x0), .second, .val (.int (0 : Int32)), .val (.int (1 : Int32))] [(.int (1 : Int32))])) _
    refine XS.aloadN X6.here hx rfl (hb hby dR_32) rfl rfl ?_
    show Steps p.tables e below (T6.setTop (mkF m 33 #[.val (.ref b1), .val (.long x0), .second, .val (.long x0), .second, .val (.int (0 : Int32)), .val (.int (1 : Int32))] [(.ref b1), (.int (1 : Int32))])) _
    refine st13 _ ?_
    show Steps p.tables e below (T13.setTop (mkF m 36 #[.val (.ref b1), .val (.long x0), .second, .val (.long x0), .second, .val (.int (0 : Int32)), .val (.int (1 : Int32))] [(.int (0 : Int32)), (.int (1 : Int32))])) _
    refine XS.icmpYes X13.here hx rfl (pc0 := 36) (pc' := 117) rfl (hb hby dR_36) rfl (flt hc36_14).2.1 (by decide) (by decide) ?_
    show Steps p.tables e below (T13.setTop (mkF m 117 #[.val (.ref b1), .val (.long x0), .second, .val (.long x0), .second, .val (.int (0 : Int32)), .val (.int (1 : Int32))] [])) _
    refine XS.aloadN X13.here hx rfl (hb hby dR_117) rfl rfl ?_
    show Steps p.tables e below (T13.setTop (mkF m 118 #[.val (.ref b1), .val (.long x0), .second, .val (.long x0), .second, .val (.int (0 : Int32)), .val (.int (1 : Int32))] [(.ref b1)])) _
    refine st15 _ ?_
    show Steps p.tables e below (T15.setTop (mkF m 121 #[.val (.ref b1), .val (.long x0), .second, .val (.long x0), .second, .val (.int (0 : Int32)), .val (.int (1 : Int32))] [(.ref q1)])) _
    refine XS.iload X15.here hx rfl (hb hby dR_121) rfl ?_
    show Steps p.tables e below (T15.setTop (mkF m 123 #[.val (.ref b1), .val (.long x0), .second, .val (.long x0), .second, .val (.int (0 : Int32)), .val (.int (1 : Int32))] [(.int (0 : Int32)), (.ref q1)])) _
    refine XS.lloadN X15.here hx rfl (hb hby dR_123) rfl ?_
    show Steps p.tables e below (T15.setTop (mkF m 124 #[.val (.ref b1), .val (.long x0), .second, .val (.long x0), .second, .val (.int (0 : Int32)), .val (.int (1 : Int32))] [(.long x0), (.int (0 : Int32)), (.ref q1)])) _
    refine st16 _ ?_
    show Steps p.tables e below (T16.setTop (mkF m 125 #[.val (.ref b1), .val (.long x0), .second, .val (.long x0), .second, .val (.int (0 : Int32)), .val (.int (1 : Int32))] [])) _
    refine XS.lloadN X16.here hx rfl (hb hby dR_125) rfl ?_
    show Steps p.tables e below (T16.setTop (mkF m 126 #[.val (.ref b1), .val (.long x0), .second, .val (.long x0), .second, .val (.int (0 : Int32)), .val (.int (1 : Int32))] [(.long x0)])) _
    exact X16.lreturnOut hx Bd.returns (hb hby dR_126) hr
  · exact ⟨rfl, N16, K16, E20, F18, F19, _, _, _, _, _, _, by rw [own_rem_1], V17⟩
theorem own_cs_12I {x0 x1 x2 x3 x4 x5 z0 z1 z2 z3 z4 z5 : Int64} (h : [z0, z1, z2, z3, z4, z5] = own_cs_12 x0 x1 x2 x3 x4 x5) : ((z1.toInt = x1.toInt ∧ z2.toInt = x2.toInt ∧ x1.toInt ≤ x2.toInt) ∨ (z1.toInt = x2.toInt ∧ z2.toInt = x1.toInt ∧ x2.toInt < x1.toInt)) ∧ z0.toInt = x0.toInt ∧ z3.toInt = x3.toInt ∧ z4.toInt = x4.toInt ∧ z5.toInt = x5.toInt ∧ ∀ g : Int64 → Int, g z0 + g z1 + g z2 + g z3 + g z4 + g z5 = g x0 + g x1 + g x2 + g x3 + g x4 + g x5 := by
  rw [own_cs_12] at h
  try simp only [Int64.lt_iff_toInt_lt] at h
  repeat' split at h
  all_goals
    simp only [List.cons.injEq, and_true] at h
    obtain ⟨rfl, rfl, rfl, rfl, rfl, rfl⟩ := h
    refine ⟨by omega, rfl, rfl, rfl, rfl, fun g => by omega⟩
theorem own_cs_02I {x0 x1 x2 x3 x4 x5 z0 z1 z2 z3 z4 z5 : Int64} (h : [z0, z1, z2, z3, z4, z5] = own_cs_02 x0 x1 x2 x3 x4 x5) : ((z0.toInt = x0.toInt ∧ z2.toInt = x2.toInt ∧ x0.toInt ≤ x2.toInt) ∨ (z0.toInt = x2.toInt ∧ z2.toInt = x0.toInt ∧ x2.toInt < x0.toInt)) ∧ z1.toInt = x1.toInt ∧ z3.toInt = x3.toInt ∧ z4.toInt = x4.toInt ∧ z5.toInt = x5.toInt ∧ ∀ g : Int64 → Int, g z0 + g z1 + g z2 + g z3 + g z4 + g z5 = g x0 + g x1 + g x2 + g x3 + g x4 + g x5 := by
  rw [own_cs_02] at h
  try simp only [Int64.lt_iff_toInt_lt] at h
  repeat' split at h
  all_goals
    simp only [List.cons.injEq, and_true] at h
    obtain ⟨rfl, rfl, rfl, rfl, rfl, rfl⟩ := h
    refine ⟨by omega, rfl, rfl, rfl, rfl, fun g => by omega⟩
theorem own_cs_01I {x0 x1 x2 x3 x4 x5 z0 z1 z2 z3 z4 z5 : Int64} (h : [z0, z1, z2, z3, z4, z5] = own_cs_01 x0 x1 x2 x3 x4 x5) : ((z0.toInt = x0.toInt ∧ z1.toInt = x1.toInt ∧ x0.toInt ≤ x1.toInt) ∨ (z0.toInt = x1.toInt ∧ z1.toInt = x0.toInt ∧ x1.toInt < x0.toInt)) ∧ z2.toInt = x2.toInt ∧ z3.toInt = x3.toInt ∧ z4.toInt = x4.toInt ∧ z5.toInt = x5.toInt ∧ ∀ g : Int64 → Int, g z0 + g z1 + g z2 + g z3 + g z4 + g z5 = g x0 + g x1 + g x2 + g x3 + g x4 + g x5 := by
  rw [own_cs_01] at h
  try simp only [Int64.lt_iff_toInt_lt] at h
  repeat' split at h
  all_goals
    simp only [List.cons.injEq, and_true] at h
    obtain ⟨rfl, rfl, rfl, rfl, rfl, rfl⟩ := h
    refine ⟨by omega, rfl, rfl, rfl, rfl, fun g => by omega⟩
theorem own_cs_45I {x0 x1 x2 x3 x4 x5 z0 z1 z2 z3 z4 z5 : Int64} (h : [z0, z1, z2, z3, z4, z5] = own_cs_45 x0 x1 x2 x3 x4 x5) : ((z4.toInt = x4.toInt ∧ z5.toInt = x5.toInt ∧ x4.toInt ≤ x5.toInt) ∨ (z4.toInt = x5.toInt ∧ z5.toInt = x4.toInt ∧ x5.toInt < x4.toInt)) ∧ z0.toInt = x0.toInt ∧ z1.toInt = x1.toInt ∧ z2.toInt = x2.toInt ∧ z3.toInt = x3.toInt ∧ ∀ g : Int64 → Int, g z0 + g z1 + g z2 + g z3 + g z4 + g z5 = g x0 + g x1 + g x2 + g x3 + g x4 + g x5 := by
  rw [own_cs_45] at h
  try simp only [Int64.lt_iff_toInt_lt] at h
  repeat' split at h
  all_goals
    simp only [List.cons.injEq, and_true] at h
    obtain ⟨rfl, rfl, rfl, rfl, rfl, rfl⟩ := h
    refine ⟨by omega, rfl, rfl, rfl, rfl, fun g => by omega⟩
theorem own_cs_35I {x0 x1 x2 x3 x4 x5 z0 z1 z2 z3 z4 z5 : Int64} (h : [z0, z1, z2, z3, z4, z5] = own_cs_35 x0 x1 x2 x3 x4 x5) : ((z3.toInt = x3.toInt ∧ z5.toInt = x5.toInt ∧ x3.toInt ≤ x5.toInt) ∨ (z3.toInt = x5.toInt ∧ z5.toInt = x3.toInt ∧ x5.toInt < x3.toInt)) ∧ z0.toInt = x0.toInt ∧ z1.toInt = x1.toInt ∧ z2.toInt = x2.toInt ∧ z4.toInt = x4.toInt ∧ ∀ g : Int64 → Int, g z0 + g z1 + g z2 + g z3 + g z4 + g z5 = g x0 + g x1 + g x2 + g x3 + g x4 + g x5 := by
  rw [own_cs_35] at h
  try simp only [Int64.lt_iff_toInt_lt] at h
  repeat' split at h
  all_goals
    simp only [List.cons.injEq, and_true] at h
    obtain ⟨rfl, rfl, rfl, rfl, rfl, rfl⟩ := h
    refine ⟨by omega, rfl, rfl, rfl, rfl, fun g => by omega⟩
theorem own_cs_34I {x0 x1 x2 x3 x4 x5 z0 z1 z2 z3 z4 z5 : Int64} (h : [z0, z1, z2, z3, z4, z5] = own_cs_34 x0 x1 x2 x3 x4 x5) : ((z3.toInt = x3.toInt ∧ z4.toInt = x4.toInt ∧ x3.toInt ≤ x4.toInt) ∨ (z3.toInt = x4.toInt ∧ z4.toInt = x3.toInt ∧ x4.toInt < x3.toInt)) ∧ z0.toInt = x0.toInt ∧ z1.toInt = x1.toInt ∧ z2.toInt = x2.toInt ∧ z5.toInt = x5.toInt ∧ ∀ g : Int64 → Int, g z0 + g z1 + g z2 + g z3 + g z4 + g z5 = g x0 + g x1 + g x2 + g x3 + g x4 + g x5 := by
  rw [own_cs_34] at h
  try simp only [Int64.lt_iff_toInt_lt] at h
  repeat' split at h
  all_goals
    simp only [List.cons.injEq, and_true] at h
    obtain ⟨rfl, rfl, rfl, rfl, rfl, rfl⟩ := h
    refine ⟨by omega, rfl, rfl, rfl, rfl, fun g => by omega⟩
theorem own_cs_03I {x0 x1 x2 x3 x4 x5 z0 z1 z2 z3 z4 z5 : Int64} (h : [z0, z1, z2, z3, z4, z5] = own_cs_03 x0 x1 x2 x3 x4 x5) : ((z0.toInt = x0.toInt ∧ z3.toInt = x3.toInt ∧ x0.toInt ≤ x3.toInt) ∨ (z0.toInt = x3.toInt ∧ z3.toInt = x0.toInt ∧ x3.toInt < x0.toInt)) ∧ z1.toInt = x1.toInt ∧ z2.toInt = x2.toInt ∧ z4.toInt = x4.toInt ∧ z5.toInt = x5.toInt ∧ ∀ g : Int64 → Int, g z0 + g z1 + g z2 + g z3 + g z4 + g z5 = g x0 + g x1 + g x2 + g x3 + g x4 + g x5 := by
  rw [own_cs_03] at h
  try simp only [Int64.lt_iff_toInt_lt] at h
  repeat' split at h
  all_goals
    simp only [List.cons.injEq, and_true] at h
    obtain ⟨rfl, rfl, rfl, rfl, rfl, rfl⟩ := h
    refine ⟨by omega, rfl, rfl, rfl, rfl, fun g => by omega⟩
theorem own_cs_14I {x0 x1 x2 x3 x4 x5 z0 z1 z2 z3 z4 z5 : Int64} (h : [z0, z1, z2, z3, z4, z5] = own_cs_14 x0 x1 x2 x3 x4 x5) : ((z1.toInt = x1.toInt ∧ z4.toInt = x4.toInt ∧ x1.toInt ≤ x4.toInt) ∨ (z1.toInt = x4.toInt ∧ z4.toInt = x1.toInt ∧ x4.toInt < x1.toInt)) ∧ z0.toInt = x0.toInt ∧ z2.toInt = x2.toInt ∧ z3.toInt = x3.toInt ∧ z5.toInt = x5.toInt ∧ ∀ g : Int64 → Int, g z0 + g z1 + g z2 + g z3 + g z4 + g z5 = g x0 + g x1 + g x2 + g x3 + g x4 + g x5 := by
  rw [own_cs_14] at h
  try simp only [Int64.lt_iff_toInt_lt] at h
  repeat' split at h
  all_goals
    simp only [List.cons.injEq, and_true] at h
    obtain ⟨rfl, rfl, rfl, rfl, rfl, rfl⟩ := h
    refine ⟨by omega, rfl, rfl, rfl, rfl, fun g => by omega⟩
theorem own_cs_25I {x0 x1 x2 x3 x4 x5 z0 z1 z2 z3 z4 z5 : Int64} (h : [z0, z1, z2, z3, z4, z5] = own_cs_25 x0 x1 x2 x3 x4 x5) : ((z2.toInt = x2.toInt ∧ z5.toInt = x5.toInt ∧ x2.toInt ≤ x5.toInt) ∨ (z2.toInt = x5.toInt ∧ z5.toInt = x2.toInt ∧ x5.toInt < x2.toInt)) ∧ z0.toInt = x0.toInt ∧ z1.toInt = x1.toInt ∧ z3.toInt = x3.toInt ∧ z4.toInt = x4.toInt ∧ ∀ g : Int64 → Int, g z0 + g z1 + g z2 + g z3 + g z4 + g z5 = g x0 + g x1 + g x2 + g x3 + g x4 + g x5 := by
  rw [own_cs_25] at h
  try simp only [Int64.lt_iff_toInt_lt] at h
  repeat' split at h
  all_goals
    simp only [List.cons.injEq, and_true] at h
    obtain ⟨rfl, rfl, rfl, rfl, rfl, rfl⟩ := h
    refine ⟨by omega, rfl, rfl, rfl, rfl, fun g => by omega⟩
theorem own_cs_24I {x0 x1 x2 x3 x4 x5 z0 z1 z2 z3 z4 z5 : Int64} (h : [z0, z1, z2, z3, z4, z5] = own_cs_24 x0 x1 x2 x3 x4 x5) : ((z2.toInt = x2.toInt ∧ z4.toInt = x4.toInt ∧ x2.toInt ≤ x4.toInt) ∨ (z2.toInt = x4.toInt ∧ z4.toInt = x2.toInt ∧ x4.toInt < x2.toInt)) ∧ z0.toInt = x0.toInt ∧ z1.toInt = x1.toInt ∧ z3.toInt = x3.toInt ∧ z5.toInt = x5.toInt ∧ ∀ g : Int64 → Int, g z0 + g z1 + g z2 + g z3 + g z4 + g z5 = g x0 + g x1 + g x2 + g x3 + g x4 + g x5 := by
  rw [own_cs_24] at h
  try simp only [Int64.lt_iff_toInt_lt] at h
  repeat' split at h
  all_goals
    simp only [List.cons.injEq, and_true] at h
    obtain ⟨rfl, rfl, rfl, rfl, rfl, rfl⟩ := h
    refine ⟨by omega, rfl, rfl, rfl, rfl, fun g => by omega⟩
theorem own_cs_13I {x0 x1 x2 x3 x4 x5 z0 z1 z2 z3 z4 z5 : Int64} (h : [z0, z1, z2, z3, z4, z5] = own_cs_13 x0 x1 x2 x3 x4 x5) : ((z1.toInt = x1.toInt ∧ z3.toInt = x3.toInt ∧ x1.toInt ≤ x3.toInt) ∨ (z1.toInt = x3.toInt ∧ z3.toInt = x1.toInt ∧ x3.toInt < x1.toInt)) ∧ z0.toInt = x0.toInt ∧ z2.toInt = x2.toInt ∧ z4.toInt = x4.toInt ∧ z5.toInt = x5.toInt ∧ ∀ g : Int64 → Int, g z0 + g z1 + g z2 + g z3 + g z4 + g z5 = g x0 + g x1 + g x2 + g x3 + g x4 + g x5 := by
  rw [own_cs_13] at h
  try simp only [Int64.lt_iff_toInt_lt] at h
  repeat' split at h
  all_goals
    simp only [List.cons.injEq, and_true] at h
    obtain ⟨rfl, rfl, rfl, rfl, rfl, rfl⟩ := h
    refine ⟨by omega, rfl, rfl, rfl, rfl, fun g => by omega⟩
theorem own_cs_23I {x0 x1 x2 x3 x4 x5 z0 z1 z2 z3 z4 z5 : Int64} (h : [z0, z1, z2, z3, z4, z5] = own_cs_23 x0 x1 x2 x3 x4 x5) : ((z2.toInt = x2.toInt ∧ z3.toInt = x3.toInt ∧ x2.toInt ≤ x3.toInt) ∨ (z2.toInt = x3.toInt ∧ z3.toInt = x2.toInt ∧ x3.toInt < x2.toInt)) ∧ z0.toInt = x0.toInt ∧ z1.toInt = x1.toInt ∧ z4.toInt = x4.toInt ∧ z5.toInt = x5.toInt ∧ ∀ g : Int64 → Int, g z0 + g z1 + g z2 + g z3 + g z4 + g z5 = g x0 + g x1 + g x2 + g x3 + g x4 + g x5 := by
  rw [own_cs_23] at h
  try simp only [Int64.lt_iff_toInt_lt] at h
  repeat' split at h
  all_goals
    simp only [List.cons.injEq, and_true] at h
    obtain ⟨rfl, rfl, rfl, rfl, rfl, rfl⟩ := h
    refine ⟨by omega, rfl, rfl, rfl, rfl, fun g => by omega⟩
theorem own_add_0I {x0 x1 x2 x3 x4 x5 y1 z0 z1 z2 z3 z4 z5 : Int64} (h : [z0, z1, z2, z3, z4, z5] = own_add_0 x0 x1 x2 x3 x4 x5 y1) (hp : (0 : Int) = 0) : ((0 : Int) = 0) ∧ ∀ g : Int64 → Int, g z0 = (0 : Int) + g y1 := by
  rw [own_add_0] at h
  try simp only [Int64.lt_iff_toInt_lt] at h
  repeat' split at h
  all_goals
    simp only [List.cons.injEq, and_true] at h
    obtain ⟨rfl, rfl, rfl, rfl, rfl, rfl⟩ := h
    refine ⟨by omega, fun g => by omega⟩
theorem own_add_1I {x0 x1 x2 x3 x4 x5 y1 z0 z1 z2 z3 z4 z5 : Int64} (h : [z0, z1, z2, z3, z4, z5] = own_add_1 x0 x1 x2 x3 x4 x5 y1) (hp : (0 : Int) = 0) : ((0 : Int) = 0 ∧ z0.toInt ≤ z1.toInt) ∧ ∀ g : Int64 → Int, g z0 + g z1 = g x0 + g y1 := by
  rw [own_add_1] at h
  try simp only [Int64.lt_iff_toInt_lt] at h
  repeat' split at h
  all_goals
    simp only [List.cons.injEq, and_true] at h
    obtain ⟨rfl, rfl, rfl, rfl, rfl, rfl⟩ := h
    refine ⟨by omega, fun g => by omega⟩
theorem own_add_2I {x0 x1 x2 x3 x4 x5 y1 z0 z1 z2 z3 z4 z5 : Int64} (h : [z0, z1, z2, z3, z4, z5] = own_add_2 x0 x1 x2 x3 x4 x5 y1) (hp : (0 : Int) = 0 ∧ x0.toInt ≤ x1.toInt) : ((0 : Int) = 0 ∧ z0.toInt ≤ z1.toInt ∧ z0.toInt ≤ z2.toInt) ∧ ∀ g : Int64 → Int, g z0 + g z1 + g z2 = g x0 + g x1 + g y1 := by
  rw [own_add_2] at h
  try simp only [Int64.lt_iff_toInt_lt] at h
  repeat' split at h
  all_goals
    simp only [List.cons.injEq, and_true] at h
    obtain ⟨rfl, rfl, rfl, rfl, rfl, rfl⟩ := h
    refine ⟨by omega, fun g => by omega⟩
theorem own_add_3I {x0 x1 x2 x3 x4 x5 y1 z0 z1 z2 z3 z4 z5 : Int64} (h : [z0, z1, z2, z3, z4, z5] = own_add_3 x0 x1 x2 x3 x4 x5 y1) (hp : (0 : Int) = 0 ∧ x0.toInt ≤ x1.toInt ∧ x0.toInt ≤ x2.toInt) : ((0 : Int) = 0 ∧ z0.toInt ≤ z1.toInt ∧ z0.toInt ≤ z2.toInt ∧ z1.toInt ≤ z3.toInt) ∧ ∀ g : Int64 → Int, g z0 + g z1 + g z2 + g z3 = g x0 + g x1 + g x2 + g y1 := by
  rw [own_add_3] at h
  try simp only [Int64.lt_iff_toInt_lt] at h
  repeat' split at h
  all_goals
    simp only [List.cons.injEq, and_true] at h
    obtain ⟨rfl, rfl, rfl, rfl, rfl, rfl⟩ := h
    refine ⟨by omega, fun g => by omega⟩
theorem own_add_4I {x0 x1 x2 x3 x4 x5 y1 z0 z1 z2 z3 z4 z5 : Int64} (h : [z0, z1, z2, z3, z4, z5] = own_add_4 x0 x1 x2 x3 x4 x5 y1) (hp : (0 : Int) = 0 ∧ x0.toInt ≤ x1.toInt ∧ x0.toInt ≤ x2.toInt ∧ x1.toInt ≤ x3.toInt) : ((0 : Int) = 0 ∧ z0.toInt ≤ z1.toInt ∧ z0.toInt ≤ z2.toInt ∧ z1.toInt ≤ z3.toInt ∧ z1.toInt ≤ z4.toInt) ∧ ∀ g : Int64 → Int, g z0 + g z1 + g z2 + g z3 + g z4 = g x0 + g x1 + g x2 + g x3 + g y1 := by
  rw [own_add_4] at h
  try simp only [Int64.lt_iff_toInt_lt] at h
  repeat' split at h
  all_goals
    simp only [List.cons.injEq, and_true] at h
    obtain ⟨rfl, rfl, rfl, rfl, rfl, rfl⟩ := h
    refine ⟨by omega, fun g => by omega⟩
theorem own_add_5I {x0 x1 x2 x3 x4 x5 y1 z0 z1 z2 z3 z4 z5 : Int64} (h : [z0, z1, z2, z3, z4, z5] = own_add_5 x0 x1 x2 x3 x4 x5 y1) (hp : (0 : Int) = 0 ∧ x0.toInt ≤ x1.toInt ∧ x0.toInt ≤ x2.toInt ∧ x1.toInt ≤ x3.toInt ∧ x1.toInt ≤ x4.toInt) : ((0 : Int) = 0 ∧ z0.toInt ≤ z1.toInt ∧ z0.toInt ≤ z2.toInt ∧ z1.toInt ≤ z3.toInt ∧ z1.toInt ≤ z4.toInt ∧ z2.toInt ≤ z5.toInt) ∧ ∀ g : Int64 → Int, g z0 + g z1 + g z2 + g z3 + g z4 + g z5 = g x0 + g x1 + g x2 + g x3 + g x4 + g y1 := by
  rw [own_add_5] at h
  try simp only [Int64.lt_iff_toInt_lt] at h
  repeat' split at h
  all_goals
    simp only [List.cons.injEq, and_true] at h
    obtain ⟨rfl, rfl, rfl, rfl, rfl, rfl⟩ := h
    refine ⟨by omega, fun g => by omega⟩
theorem own_rem_6I {x0 x1 x2 x3 x4 x5 z0 z1 z2 z3 z4 z5 : Int64} (h : [z0, z1, z2, z3, z4, z5] = own_rem_6 x0 x1 x2 x3 x4 x5) (hp : (0 : Int) = 0 ∧ x0.toInt ≤ x1.toInt ∧ x0.toInt ≤ x2.toInt ∧ x1.toInt ≤ x3.toInt ∧ x1.toInt ≤ x4.toInt ∧ x2.toInt ≤ x5.toInt) : ((0 : Int) = 0 ∧ z0.toInt ≤ z1.toInt ∧ z0.toInt ≤ z2.toInt ∧ z1.toInt ≤ z3.toInt ∧ z1.toInt ≤ z4.toInt) ∧ ((0 : Int) = 0 ∧ x0.toInt ≤ z0.toInt ∧ x0.toInt ≤ z1.toInt ∧ x0.toInt ≤ z2.toInt ∧ x0.toInt ≤ z3.toInt ∧ x0.toInt ≤ z4.toInt) ∧ ∀ g : Int64 → Int, g x0 + (g z0 + g z1 + g z2 + g z3 + g z4) = g x0 + g x1 + g x2 + g x3 + g x4 + g x5 := by
  rw [own_rem_6] at h
  try simp only [Int64.lt_iff_toInt_lt] at h
  repeat' split at h
  all_goals
    simp only [List.cons.injEq, and_true] at h
    obtain ⟨rfl, rfl, rfl, rfl, rfl, rfl⟩ := h
    refine ⟨by omega, by omega, fun g => by omega⟩
theorem own_rem_5I {x0 x1 x2 x3 x4 x5 z0 z1 z2 z3 z4 z5 : Int64} (h : [z0, z1, z2, z3, z4, z5] = own_rem_5 x0 x1 x2 x3 x4 x5) (hp : (0 : Int) = 0 ∧ x0.toInt ≤ x1.toInt ∧ x0.toInt ≤ x2.toInt ∧ x1.toInt ≤ x3.toInt ∧ x1.toInt ≤ x4.toInt) : ((0 : Int) = 0 ∧ z0.toInt ≤ z1.toInt ∧ z0.toInt ≤ z2.toInt ∧ z1.toInt ≤ z3.toInt) ∧ ((0 : Int) = 0 ∧ x0.toInt ≤ z0.toInt ∧ x0.toInt ≤ z1.toInt ∧ x0.toInt ≤ z2.toInt ∧ x0.toInt ≤ z3.toInt) ∧ ∀ g : Int64 → Int, g x0 + (g z0 + g z1 + g z2 + g z3) = g x0 + g x1 + g x2 + g x3 + g x4 := by
  rw [own_rem_5] at h
  try simp only [Int64.lt_iff_toInt_lt] at h
  repeat' split at h
  all_goals
    simp only [List.cons.injEq, and_true] at h
    obtain ⟨rfl, rfl, rfl, rfl, rfl, rfl⟩ := h
    refine ⟨by omega, by omega, fun g => by omega⟩
theorem own_rem_4I {x0 x1 x2 x3 x4 x5 z0 z1 z2 z3 z4 z5 : Int64} (h : [z0, z1, z2, z3, z4, z5] = own_rem_4 x0 x1 x2 x3 x4 x5) (hp : (0 : Int) = 0 ∧ x0.toInt ≤ x1.toInt ∧ x0.toInt ≤ x2.toInt ∧ x1.toInt ≤ x3.toInt) : ((0 : Int) = 0 ∧ z0.toInt ≤ z1.toInt ∧ z0.toInt ≤ z2.toInt) ∧ ((0 : Int) = 0 ∧ x0.toInt ≤ z0.toInt ∧ x0.toInt ≤ z1.toInt ∧ x0.toInt ≤ z2.toInt) ∧ ∀ g : Int64 → Int, g x0 + (g z0 + g z1 + g z2) = g x0 + g x1 + g x2 + g x3 := by
  rw [own_rem_4] at h
  try simp only [Int64.lt_iff_toInt_lt] at h
  repeat' split at h
  all_goals
    simp only [List.cons.injEq, and_true] at h
    obtain ⟨rfl, rfl, rfl, rfl, rfl, rfl⟩ := h
    refine ⟨by omega, by omega, fun g => by omega⟩
theorem own_rem_3I {x0 x1 x2 x3 x4 x5 z0 z1 z2 z3 z4 z5 : Int64} (h : [z0, z1, z2, z3, z4, z5] = own_rem_3 x0 x1 x2 x3 x4 x5) (hp : (0 : Int) = 0 ∧ x0.toInt ≤ x1.toInt ∧ x0.toInt ≤ x2.toInt) : ((0 : Int) = 0 ∧ z0.toInt ≤ z1.toInt) ∧ ((0 : Int) = 0 ∧ x0.toInt ≤ z0.toInt ∧ x0.toInt ≤ z1.toInt) ∧ ∀ g : Int64 → Int, g x0 + (g z0 + g z1) = g x0 + g x1 + g x2 := by
  rw [own_rem_3] at h
  try simp only [Int64.lt_iff_toInt_lt] at h
  repeat' split at h
  all_goals
    simp only [List.cons.injEq, and_true] at h
    obtain ⟨rfl, rfl, rfl, rfl, rfl, rfl⟩ := h
    refine ⟨by omega, by omega, fun g => by omega⟩
theorem own_rem_2I {x0 x1 x2 x3 x4 x5 z0 z1 z2 z3 z4 z5 : Int64} (h : [z0, z1, z2, z3, z4, z5] = own_rem_2 x0 x1 x2 x3 x4 x5) (hp : (0 : Int) = 0 ∧ x0.toInt ≤ x1.toInt) : ((0 : Int) = 0) ∧ ((0 : Int) = 0 ∧ x0.toInt ≤ z0.toInt) ∧ ∀ g : Int64 → Int, g x0 + (g z0) = g x0 + g x1 := by
  rw [own_rem_2] at h
  try simp only [Int64.lt_iff_toInt_lt] at h
  repeat' split at h
  all_goals
    simp only [List.cons.injEq, and_true] at h
    obtain ⟨rfl, rfl, rfl, rfl, rfl, rfl⟩ := h
    refine ⟨by omega, by omega, fun g => by omega⟩
theorem own_rem_1I {x0 x1 x2 x3 x4 x5 z0 z1 z2 z3 z4 z5 : Int64} (h : [z0, z1, z2, z3, z4, z5] = own_rem_1 x0 x1 x2 x3 x4 x5) (hp : (0 : Int) = 0) : ((0 : Int) = 0) ∧ ((0 : Int) = 0) ∧ ∀ g : Int64 → Int, g x0 + ((0 : Int)) = g x0 := by
  rw [own_rem_1] at h
  try simp only [Int64.lt_iff_toInt_lt] at h
  repeat' split at h
  all_goals
    simp only [List.cons.injEq, and_true] at h
    obtain ⟨rfl, rfl, rfl, rfl, rfl, rfl⟩ := h
    refine ⟨by omega, by omega, fun g => by omega⟩
theorem own_sum0 (g : Int64 → Int) : ∀ l : List Int64, (∀ x ∈ l, g x = 0) → (l.map g).sum = 0
  | [], _ => rfl
  | a :: t, h => by
    rw [List.map_cons, List.sum_cons, h a (List.mem_cons_self ..), own_sum0 g t (fun x hx => h x (List.mem_cons_of_mem _ hx))]; rfl
theorem own_sumN (g : Int64 → Int) (hg : ∀ x, 0 ≤ g x) : ∀ l : List Int64, 0 ≤ (l.map g).sum
  | [] => Int.le_refl _
  | a :: t => by
    rw [List.map_cons, List.sum_cons]
    have := own_sumN g hg t
    have := hg a
    omega
theorem own_ge {a b : Int64} {t1 t2 : List Int64} (h2 : (b :: t2).Pairwise fun x y => x.toInt ≤ y.toInt) (hs : ∀ g : Int64 → Int, ((a :: t1).map g).sum = ((b :: t2).map g).sum) : b.toInt ≤ a.toInt := by
  refine Int.not_lt.mp fun q => ?_
  have h := hs (fun x => if x.toInt < b.toInt then 1 else 0)
  have z := own_sum0 (fun x => if x.toInt < b.toInt then 1 else 0) (b :: t2) (fun x hx => by
    rcases List.mem_cons.mp hx with rfl | hx
    · exact if_neg (Int.lt_irrefl _)
    · exact if_neg (Int.not_lt.mpr ((List.pairwise_cons.mp h2).1 x hx)))
  have p := own_sumN (fun x => if x.toInt < b.toInt then 1 else 0) (fun x => by show (0 : Int) ≤ if _ then 1 else 0; split <;> omega) t1
  rw [z, List.map_cons, List.sum_cons, if_pos q] at h
  omega
theorem own_uniq : ∀ (l1 l2 : List Int64), l1.length = l2.length → (l1.Pairwise fun x y => x.toInt ≤ y.toInt) → (l2.Pairwise fun x y => x.toInt ≤ y.toInt) → (∀ g : Int64 → Int, (l1.map g).sum = (l2.map g).sum) → l1 = l2
  | [], [], _, _, _, _ => rfl
  | a :: t1, b :: t2, hl, h1, h2, hs => by
    have e : a = b := Int64.toInt_inj.mp (Int.le_antisymm (own_ge h1 fun g => (hs g).symm) (own_ge h2 hs))
    subst e
    rw [own_uniq t1 t2 (Nat.succ.inj hl) (List.pairwise_cons.mp h1).2 (List.pairwise_cons.mp h2).2 fun g => by
      have := hs g
      rw [List.map_cons, List.map_cons, List.sum_cons, List.sum_cons] at this
      omega]
set_option maxHeartbeats 4000000 in
theorem own_final {p1 p2 p3 p4 p5 p6 : Int64} {z27_0 z27_1 z27_2 z27_3 z27_4 z27_5 z29_0 z29_1 z29_2 z29_3 z29_4 z29_5 z31_0 z31_1 z31_2 z31_3 z31_4 z31_5 z33_0 z33_1 z33_2 z33_3 z33_4 z33_5 z35_0 z35_1 z35_2 z35_3 z35_4 z35_5 z37_0 z37_1 z37_2 z37_3 z37_4 z37_5 z39_0 z39_1 z39_2 z39_3 z39_4 z39_5 z41_0 z41_1 z41_2 z41_3 z41_4 z41_5 z43_0 z43_1 z43_2 z43_3 z43_4 z43_5 z45_0 z45_1 z45_2 z45_3 z45_4 z45_5 z47_0 z47_1 z47_2 z47_3 z47_4 z47_5 z49_0 z49_1 z49_2 z49_3 z49_4 z49_5 z59_0 z59_1 z59_2 z59_3 z59_4 z59_5 z62_0 z62_1 z62_2 z62_3 z62_4 z62_5 z65_0 z65_1 z65_2 z65_3 z65_4 z65_5 z68_0 z68_1 z68_2 z68_3 z68_4 z68_5 z71_0 z71_1 z71_2 z71_3 z71_4 z71_5 z74_0 z74_1 z74_2 z74_3 z74_4 z74_5 z77_0 z77_1 z77_2 z77_3 z77_4 z77_5 z80_0 z80_1 z80_2 z80_3 z80_4 z80_5 z83_0 z83_1 z83_2 z83_3 z83_4 z83_5 z86_0 z86_1 z86_2 z86_3 z86_4 z86_5 z89_0 z89_1 z89_2 z89_3 z89_4 z89_5 z92_0 z92_1 z92_2 z92_3 z92_4 z92_5 : Int64}
    (hz27 : [z27_0, z27_1, z27_2, z27_3, z27_4, z27_5] = own_cs_12 p1 p2 p3 p4 p5 p6)
    (hz29 : [z29_0, z29_1, z29_2, z29_3, z29_4, z29_5] = own_cs_02 z27_0 z27_1 z27_2 z27_3 z27_4 z27_5)
    (hz31 : [z31_0, z31_1, z31_2, z31_3, z31_4, z31_5] = own_cs_01 z29_0 z29_1 z29_2 z29_3 z29_4 z29_5)
    (hz33 : [z33_0, z33_1, z33_2, z33_3, z33_4, z33_5] = own_cs_45 z31_0 z31_1 z31_2 z31_3 z31_4 z31_5)
    (hz35 : [z35_0, z35_1, z35_2, z35_3, z35_4, z35_5] = own_cs_35 z33_0 z33_1 z33_2 z33_3 z33_4 z33_5)
    (hz37 : [z37_0, z37_1, z37_2, z37_3, z37_4, z37_5] = own_cs_34 z35_0 z35_1 z35_2 z35_3 z35_4 z35_5)
    (hz39 : [z39_0, z39_1, z39_2, z39_3, z39_4, z39_5] = own_cs_03 z37_0 z37_1 z37_2 z37_3 z37_4 z37_5)
    (hz41 : [z41_0, z41_1, z41_2, z41_3, z41_4, z41_5] = own_cs_14 z39_0 z39_1 z39_2 z39_3 z39_4 z39_5)
    (hz43 : [z43_0, z43_1, z43_2, z43_3, z43_4, z43_5] = own_cs_25 z41_0 z41_1 z41_2 z41_3 z41_4 z41_5)
    (hz45 : [z45_0, z45_1, z45_2, z45_3, z45_4, z45_5] = own_cs_24 z43_0 z43_1 z43_2 z43_3 z43_4 z43_5)
    (hz47 : [z47_0, z47_1, z47_2, z47_3, z47_4, z47_5] = own_cs_13 z45_0 z45_1 z45_2 z45_3 z45_4 z45_5)
    (hz49 : [z49_0, z49_1, z49_2, z49_3, z49_4, z49_5] = own_cs_23 z47_0 z47_1 z47_2 z47_3 z47_4 z47_5)
    (hz59 : [z59_0, z59_1, z59_2, z59_3, z59_4, z59_5] = own_add_0 (0 : Int64) (0 : Int64) (0 : Int64) (0 : Int64) (0 : Int64) (0 : Int64) p1)
    (hz62 : [z62_0, z62_1, z62_2, z62_3, z62_4, z62_5] = own_add_1 z59_0 z59_1 z59_2 z59_3 z59_4 z59_5 p2)
    (hz65 : [z65_0, z65_1, z65_2, z65_3, z65_4, z65_5] = own_add_2 z62_0 z62_1 z62_2 z62_3 z62_4 z62_5 p3)
    (hz68 : [z68_0, z68_1, z68_2, z68_3, z68_4, z68_5] = own_add_3 z65_0 z65_1 z65_2 z65_3 z65_4 z65_5 p4)
    (hz71 : [z71_0, z71_1, z71_2, z71_3, z71_4, z71_5] = own_add_4 z68_0 z68_1 z68_2 z68_3 z68_4 z68_5 p5)
    (hz74 : [z74_0, z74_1, z74_2, z74_3, z74_4, z74_5] = own_add_5 z71_0 z71_1 z71_2 z71_3 z71_4 z71_5 p6)
    (hz77 : [z77_0, z77_1, z77_2, z77_3, z77_4, z77_5] = own_rem_6 z74_0 z74_1 z74_2 z74_3 z74_4 z74_5)
    (hz80 : [z80_0, z80_1, z80_2, z80_3, z80_4, z80_5] = own_rem_5 z77_0 z77_1 z77_2 z77_3 z77_4 z77_5)
    (hz83 : [z83_0, z83_1, z83_2, z83_3, z83_4, z83_5] = own_rem_4 z80_0 z80_1 z80_2 z80_3 z80_4 z80_5)
    (hz86 : [z86_0, z86_1, z86_2, z86_3, z86_4, z86_5] = own_rem_3 z83_0 z83_1 z83_2 z83_3 z83_4 z83_5)
    (hz89 : [z89_0, z89_1, z89_2, z89_3, z89_4, z89_5] = own_rem_2 z86_0 z86_1 z86_2 z86_3 z86_4 z86_5)
    (hz92 : [z92_0, z92_1, z92_2, z92_3, z92_4, z92_5] = own_rem_1 z89_0 z89_1 z89_2 z89_3 z89_4 z89_5)
    : z74_0 = z49_0 ∧ z77_0 = z49_1 ∧ z80_0 = z49_2 ∧ z83_0 = z49_3 ∧ z86_0 = z49_4 ∧ z89_0 = z49_5 := by
  obtain ⟨dhz27, ehz27_0, ehz27_3, ehz27_4, ehz27_5, ghz27⟩ := own_cs_12I hz27
  clear hz27
  obtain ⟨dhz29, ehz29_1, ehz29_3, ehz29_4, ehz29_5, ghz29⟩ := own_cs_02I hz29
  clear hz29
  obtain ⟨dhz31, ehz31_2, ehz31_3, ehz31_4, ehz31_5, ghz31⟩ := own_cs_01I hz31
  clear hz31
  obtain ⟨dhz33, ehz33_0, ehz33_1, ehz33_2, ehz33_3, ghz33⟩ := own_cs_45I hz33
  clear hz33
  obtain ⟨dhz35, ehz35_0, ehz35_1, ehz35_2, ehz35_4, ghz35⟩ := own_cs_35I hz35
  clear hz35
  obtain ⟨dhz37, ehz37_0, ehz37_1, ehz37_2, ehz37_5, ghz37⟩ := own_cs_34I hz37
  clear hz37
  obtain ⟨dhz39, ehz39_1, ehz39_2, ehz39_4, ehz39_5, ghz39⟩ := own_cs_03I hz39
  clear hz39
  obtain ⟨dhz41, ehz41_0, ehz41_2, ehz41_3, ehz41_5, ghz41⟩ := own_cs_14I hz41
  clear hz41
  obtain ⟨dhz43, ehz43_0, ehz43_1, ehz43_3, ehz43_4, ghz43⟩ := own_cs_25I hz43
  clear hz43
  obtain ⟨dhz45, ehz45_0, ehz45_1, ehz45_3, ehz45_5, ghz45⟩ := own_cs_24I hz45
  clear hz45
  obtain ⟨dhz47, ehz47_0, ehz47_2, ehz47_4, ehz47_5, ghz47⟩ := own_cs_13I hz47
  clear hz47
  obtain ⟨dhz49, ehz49_0, ehz49_1, ehz49_4, ehz49_5, ghz49⟩ := own_cs_23I hz49
  clear hz49
  obtain ⟨qhz59, ghz59⟩ := own_add_0I hz59 rfl
  clear hz59
  obtain ⟨qhz62, ghz62⟩ := own_add_1I hz62 qhz59
  clear hz62
  obtain ⟨qhz65, ghz65⟩ := own_add_2I hz65 qhz62
  clear hz65
  obtain ⟨qhz68, ghz68⟩ := own_add_3I hz68 qhz65
  clear hz68
  obtain ⟨qhz71, ghz71⟩ := own_add_4I hz71 qhz68
  clear hz71
  obtain ⟨qhz74, ghz74⟩ := own_add_5I hz74 qhz71
  clear hz74
  obtain ⟨qhz77, lhz77, ghz77⟩ := own_rem_6I hz77 qhz74
  clear hz77
  obtain ⟨qhz80, lhz80, ghz80⟩ := own_rem_5I hz80 qhz77
  clear hz80
  obtain ⟨qhz83, lhz83, ghz83⟩ := own_rem_4I hz83 qhz80
  clear hz83
  obtain ⟨qhz86, lhz86, ghz86⟩ := own_rem_3I hz86 qhz83
  clear hz86
  obtain ⟨qhz89, lhz89, ghz89⟩ := own_rem_2I hz89 qhz86
  clear hz89
  obtain ⟨qhz92, lhz92, ghz92⟩ := own_rem_1I hz92 qhz89
  clear hz92
  have hR : [z74_0, z77_0, z80_0, z83_0, z86_0, z89_0].Pairwise fun x y : Int64 => x.toInt ≤ y.toInt := by
    simp only [List.pairwise_cons, List.mem_cons, List.not_mem_nil, or_false, forall_eq_or_imp, forall_eq, false_implies, implies_true, and_true, List.Pairwise.nil]
    omega
  have hS : [z49_0, z49_1, z49_2, z49_3, z49_4, z49_5].Pairwise fun x y : Int64 => x.toInt ≤ y.toInt := by
    have s1 : z31_0.toInt ≤ z31_1.toInt ∧ z31_1.toInt ≤ z31_2.toInt := by clear dhz33 dhz35 dhz37 dhz39 dhz41 dhz43 dhz45 dhz47 dhz49; omega
    have s2 : z37_3.toInt ≤ z37_4.toInt ∧ z37_4.toInt ≤ z37_5.toInt := by clear s1 dhz27 dhz29 dhz31 dhz39 dhz41 dhz43 dhz45 dhz47 dhz49; omega
    clear dhz27 dhz29 dhz31 dhz33 dhz35 dhz37
    have s3 : z43_0.toInt ≤ z43_1.toInt ∧ z43_1.toInt ≤ z43_2.toInt ∧ z43_3.toInt ≤ z43_4.toInt ∧ z43_4.toInt ≤ z43_5.toInt ∧ z43_0.toInt ≤ z43_3.toInt ∧ z43_1.toInt ≤ z43_4.toInt ∧ z43_2.toInt ≤ z43_5.toInt := by clear dhz45 dhz47 dhz49; omega
    clear s1 s2 dhz39 dhz41 dhz43
    simp only [List.pairwise_cons, List.mem_cons, List.not_mem_nil, or_false, forall_eq_or_imp, forall_eq, false_implies, implies_true, and_true, List.Pairwise.nil]
    omega
  have hE := own_uniq [z74_0, z77_0, z80_0, z83_0, z86_0, z89_0] [z49_0, z49_1, z49_2, z49_3, z49_4, z49_5] rfl hR hS (fun g => by
    have := ghz27 g
    have := ghz29 g
    have := ghz31 g
    have := ghz33 g
    have := ghz35 g
    have := ghz37 g
    have := ghz39 g
    have := ghz41 g
    have := ghz43 g
    have := ghz45 g
    have := ghz47 g
    have := ghz49 g
    have := ghz59 g
    have := ghz62 g
    have := ghz65 g
    have := ghz68 g
    have := ghz71 g
    have := ghz74 g
    have := ghz77 g
    have := ghz80 g
    have := ghz83 g
    have := ghz86 g
    have := ghz89 g
    have := ghz92 g
    simp only [List.map_cons, List.map_nil, List.sum_cons, List.sum_nil]
    omega)
  simp only [List.cons.injEq, and_true] at hE
  exact hE
theorem pd__28_5bJII_29V : parseMethodDescriptor "([JII)V" = some ⟨[(.array .long), .int, .int], none⟩ := by decide +kernel
theorem pd__28_29V : parseMethodDescriptor "()V" = some ⟨[], none⟩ := by decide +kernel
theorem pd__28J_29V : parseMethodDescriptor "(J)V" = some ⟨[.long], none⟩ := by decide +kernel
theorem pd__28_29J : parseMethodDescriptor "()J" = some ⟨[], some .long⟩ := by decide +kernel
theorem pn_0 : plainName "com/example/kdata/kdata/LongHeapRemoveLeastPinLaw" = true := by first | (simp [plainName, overriddenIn]; done) | decide +kernel
theorem ef_0 (m : MethodId) (x0 : Int64) (x1 : Int64) (x2 : Int64) (x3 : Int64) (x4 : Int64) (x5 : Int64) : entryFrame m #[(.long x0), (.long x1), (.long x2), (.long x3), (.long x4), (.long x5)] maxLocals = mkF m 0 #[.val (.long x0), .second, .val (.long x1), .second, .val (.long x2), .second, .val (.long x3), .second, .val (.long x4), .second, .val (.long x5), .second, .unset, .unset, .unset, .unset, .unset, .unset, .unset, .unset, .unset, .unset, .unset, .unset, .unset, .unset] [] := by first | (simp [entryFrame, mkF, argsToLocals, Value.category, maxLocals]; done) | rfl
def Q0 (p1 : Int64) (p2 : Int64) (p3 : Int64) (p4 : Int64) (p5 : Int64) (p6 : Int64) (h0 : Heap) (n0 : Nat) (v : Option Value) (h : Heap) (L : List Loc) : Prop := v = some (.int 1) ∧ Fr n0 L
set_option maxRecDepth 65536 in
set_option maxHeartbeats 40000000 in
theorem rm0 (l : Launch) (Z : State) (a0 : Array Value) (hw : ∀ d ∈ tables_1, d.before a0 Z = true) (ws : List Jvm.Cond) (p1 : Int64) (p2 : Int64) (p3 : Int64) (p4 : Int64) (p5 : Int64) (p6 : Int64) (h0 : Heap) (n0 : Nat) (Z0 : n0 ≤ h0.size)  :
    MetFree l x (head1 (Jvm.Cond.code x code maxLocals ret :: ws) room_1) (fun a U => a = #[(.long p1), (.long p2), (.long p3), (.long p4), (.long p5), (.long p6)] ∧ Z.Warmed39 U.vm ∧ U.heap = h0) (fun _ _ _ _ _ => True) (fun _ U o U' => ∃ v L, o = .returned v ∧ Q0 p1 p2 p3 p4 p5 p6 h0 n0 v U'.heap L ∧ FrameEnd U o U' L 16 128) := by
  refine MetFree.of_bodySF (plainFor_of_name pn_0) hisR ?_
  intro p e s m args below meth c s₁ Bd hml0 hP hK
  obtain ⟨rfl, hZ, hh⟩ := hP
  have hx := Bd.exec
  have hby := Bd.bytes
  have hml : c.maxLocals = 26 := hml0
  have hown : s.vm.findClass "com/example/kdata/kdata/LongHeapRemoveLeastPinLaw" = some m.cls := findClass_of_methodNamed Bd.named
  have hnm := (name_of_methodNamed Bd.named Bd.method).1
  have X0 : Stand p l e room_1 s m #[(.long p1), (.long p2), (.long p3), (.long p4), (.long p5), (.long p6)] below meth c s₁ [] 0 0 := Stand.of_body Bd
  have e0 : s₁.heap = h0 := by rw [← hh, Bd.state]; rfl
  have N0 := Fr.nil n0
  show own_Go p e below s (Q0 p1 p2 p3 p4 p5 p6 h0 n0) 16 128 (s₁.setTop (entryFrame m #[(.long p1), (.long p2), (.long p3), (.long p4), (.long p5), (.long p6)] maxLocals))
  refine own_go (b := s₁.setTop (mkF m 0 #[.val (.long p1), .second, .val (.long p2), .second, .val (.long p3), .second, .val (.long p4), .second, .val (.long p5), .second, .val (.long p6), .second, .unset, .unset, .unset, .unset, .unset, .unset, .unset, .unset, .unset, .unset, .unset, .unset, .unset, .unset] [])) (fun t k => castTop (ef_0 m p1 p2 p3 p4 p5 p6) k) ?_
  obtain ⟨T1, h1, k1, X1, e1, E1, A1, B1, st1⟩ := newPE X0 hx hZ (hw _ (List.mem_of_getElem? (i := 0) rfl)) e0 (g := (mkF m 2 #[.val (.long p1), .second, .val (.long p2), .second, .val (.long p3), .second, .val (.long p4), .second, .val (.long p5), .second, .val (.long p6), .second, .unset, .unset, .unset, .unset, .unset, .unset, .unset, .unset, .unset, .unset, .unset, .unset, .unset, .unset] [(.int (6 : Int32))])) rfl (hb hby at_2) rfl (by decide) (cap := 6) (by decide) (by decide) (by decide) (by decide) (ad := "[J") (by first | rfl | decide +kernel)
  obtain ⟨a1, ga1⟩ : ∃ z, z = h0.size := ⟨_, rfl⟩
  rw [← ga1] at A1 B1 st1
  have lo1 : n0 ≤ a1 := Nat.le_trans Z0 (Nat.le_of_eq ga1.symm)
  have Z1 : n0 ≤ h1.size := Nat.le_trans Z0 E1.1
  have V2 : Arv Z h1 a1 k1 .long (6 : Int32) [(.long (0 : Int64)), (.long (0 : Int64)), (.long (0 : Int64)), (.long (0 : Int64)), (.long (0 : Int64)), (.long (0 : Int64))] (.long (0 : Int64)) := (Arv.new A1 (by decide)).pad (pad_rep [] (.long (0 : Int64)) 6)
  obtain ⟨cl3, Ar3, q3, S3, M3, H3, U3⟩ := id V2
  obtain ⟨T4, h4, X4, e4, W4, st4⟩ := stJ X1 hx hZ e1 Ar3 (j := (0 : Int32)) (by rw [S3]; decide) (g := (mkF m 7 #[.val (.long p1), .second, .val (.long p2), .second, .val (.long p3), .second, .val (.long p4), .second, .val (.long p5), .second, .val (.long p6), .second, .unset, .unset, .unset, .unset, .unset, .unset, .unset, .unset, .unset, .unset, .unset, .unset, .unset, .unset] [(.long p1), (.int (0 : Int32)), (.ref a1), (.ref a1)])) rfl rfl (hb hby at_7)
  have N4 := Fr.snoc X4 N0 lo1
  obtain ⟨lc4, X4, N4⟩ := own_lc X4 N4
  have V5 : Arv Z h4 a1 k1 .long (6 : Int32) [(.long p1), (.long (0 : Int64)), (.long (0 : Int64)), (.long (0 : Int64)), (.long (0 : Int64)), (.long (0 : Int64))] (.long (0 : Int64)) := Arv.set Ar3 q3 S3 M3 H3 U3 rfl W4 0 rfl (by show 0 < 6; decide)
  have E6 := B1.wr W4
  have Z4 : n0 ≤ h4.size := by rw [W4.size]; exact Z1
  obtain ⟨cl7, Ar7, q7, S7, M7, H7, U7⟩ := id V5
  obtain ⟨T8, h8, X8, e8, W8, st8⟩ := stJ X4 hx hZ e4 Ar7 (j := (1 : Int32)) (by rw [S7]; decide) (g := (mkF m 11 #[.val (.long p1), .second, .val (.long p2), .second, .val (.long p3), .second, .val (.long p4), .second, .val (.long p5), .second, .val (.long p6), .second, .unset, .unset, .unset, .unset, .unset, .unset, .unset, .unset, .unset, .unset, .unset, .unset, .unset, .unset] [(.long p2), (.int (1 : Int32)), (.ref a1), (.ref a1)])) rfl rfl (hb hby at_11)
  have N8 := Fr.snoc X8 N4 lo1
  obtain ⟨lc8, X8, N8⟩ := own_lc X8 N8
  have V9 : Arv Z h8 a1 k1 .long (6 : Int32) [(.long p1), (.long p2), (.long (0 : Int64)), (.long (0 : Int64)), (.long (0 : Int64)), (.long (0 : Int64))] (.long (0 : Int64)) := Arv.set Ar7 q7 S7 M7 H7 U7 rfl W8 1 rfl (by show 1 < 6; decide)
  have E10 := E6.wr W8
  have Z8 : n0 ≤ h8.size := by rw [W8.size]; exact Z4
  obtain ⟨cl11, Ar11, q11, S11, M11, H11, U11⟩ := id V9
  obtain ⟨T12, h12, X12, e12, W12, st12⟩ := stJ X8 hx hZ e8 Ar11 (j := (2 : Int32)) (by rw [S11]; decide) (g := (mkF m 16 #[.val (.long p1), .second, .val (.long p2), .second, .val (.long p3), .second, .val (.long p4), .second, .val (.long p5), .second, .val (.long p6), .second, .unset, .unset, .unset, .unset, .unset, .unset, .unset, .unset, .unset, .unset, .unset, .unset, .unset, .unset] [(.long p3), (.int (2 : Int32)), (.ref a1), (.ref a1)])) rfl rfl (hb hby at_16)
  have N12 := Fr.snoc X12 N8 lo1
  obtain ⟨lc12, X12, N12⟩ := own_lc X12 N12
  have V13 : Arv Z h12 a1 k1 .long (6 : Int32) [(.long p1), (.long p2), (.long p3), (.long (0 : Int64)), (.long (0 : Int64)), (.long (0 : Int64))] (.long (0 : Int64)) := Arv.set Ar11 q11 S11 M11 H11 U11 rfl W12 2 rfl (by show 2 < 6; decide)
  have E14 := E10.wr W12
  have Z12 : n0 ≤ h12.size := by rw [W12.size]; exact Z8
  obtain ⟨cl15, Ar15, q15, S15, M15, H15, U15⟩ := id V13
  obtain ⟨T16, h16, X16, e16, W16, st16⟩ := stJ X12 hx hZ e12 Ar15 (j := (3 : Int32)) (by rw [S15]; decide) (g := (mkF m 21 #[.val (.long p1), .second, .val (.long p2), .second, .val (.long p3), .second, .val (.long p4), .second, .val (.long p5), .second, .val (.long p6), .second, .unset, .unset, .unset, .unset, .unset, .unset, .unset, .unset, .unset, .unset, .unset, .unset, .unset, .unset] [(.long p4), (.int (3 : Int32)), (.ref a1), (.ref a1)])) rfl rfl (hb hby at_21)
  have N16 := Fr.snoc X16 N12 lo1
  obtain ⟨lc16, X16, N16⟩ := own_lc X16 N16
  have V17 : Arv Z h16 a1 k1 .long (6 : Int32) [(.long p1), (.long p2), (.long p3), (.long p4), (.long (0 : Int64)), (.long (0 : Int64))] (.long (0 : Int64)) := Arv.set Ar15 q15 S15 M15 H15 U15 rfl W16 3 rfl (by show 3 < 6; decide)
  have E18 := E14.wr W16
  have Z16 : n0 ≤ h16.size := by rw [W16.size]; exact Z12
  obtain ⟨cl19, Ar19, q19, S19, M19, H19, U19⟩ := id V17
  obtain ⟨T20, h20, X20, e20, W20, st20⟩ := stJ X16 hx hZ e16 Ar19 (j := (4 : Int32)) (by rw [S19]; decide) (g := (mkF m 26 #[.val (.long p1), .second, .val (.long p2), .second, .val (.long p3), .second, .val (.long p4), .second, .val (.long p5), .second, .val (.long p6), .second, .unset, .unset, .unset, .unset, .unset, .unset, .unset, .unset, .unset, .unset, .unset, .unset, .unset, .unset] [(.long p5), (.int (4 : Int32)), (.ref a1), (.ref a1)])) rfl rfl (hb hby at_26)
  have N20 := Fr.snoc X20 N16 lo1
  obtain ⟨lc20, X20, N20⟩ := own_lc X20 N20
  have V21 : Arv Z h20 a1 k1 .long (6 : Int32) [(.long p1), (.long p2), (.long p3), (.long p4), (.long p5), (.long (0 : Int64))] (.long (0 : Int64)) := Arv.set Ar19 q19 S19 M19 H19 U19 rfl W20 4 rfl (by show 4 < 6; decide)
  have E22 := E18.wr W20
  have Z20 : n0 ≤ h20.size := by rw [W20.size]; exact Z16
  obtain ⟨cl23, Ar23, q23, S23, M23, H23, U23⟩ := id V21
  obtain ⟨T24, h24, X24, e24, W24, st24⟩ := stJ X20 hx hZ e20 Ar23 (j := (5 : Int32)) (by rw [S23]; decide) (g := (mkF m 31 #[.val (.long p1), .second, .val (.long p2), .second, .val (.long p3), .second, .val (.long p4), .second, .val (.long p5), .second, .val (.long p6), .second, .unset, .unset, .unset, .unset, .unset, .unset, .unset, .unset, .unset, .unset, .unset, .unset, .unset, .unset] [(.long p6), (.int (5 : Int32)), (.ref a1), (.ref a1)])) rfl rfl (hb hby at_31)
  have N24 := Fr.snoc X24 N20 lo1
  obtain ⟨lc24, X24, N24⟩ := own_lc X24 N24
  have V25 : Arv Z h24 a1 k1 .long (6 : Int32) [(.long p1), (.long p2), (.long p3), (.long p4), (.long p5), (.long p6)] (.long (0 : Int64)) := Arv.set Ar23 q23 S23 M23 H23 U23 rfl W24 5 rfl (by show 5 < 6; decide)
  have E26 := E22.wr W24
  have Z24 : n0 ≤ h24.size := by rw [W24.size]; exact Z20
  obtain ⟨_, _, ⟨T27, uL27, uk27, un27⟩, -, X27, ⟨Lc27, hQ27, ul27, uy27, uz27⟩, st27⟩ := Jvm.LawKit.callS X24 hx (y := (⟨"com/example/kdata/kdata/LongHeapRemoveLeastPinLaw", "cs", "([JII)V"⟩ : MethodName)) hown (mvT hZ (hw _ (List.mem_of_getElem? (i := 1) rfl))) (mvT hZ (hw _ (List.mem_of_getElem? (i := 2) rfl))) (mvT hZ (hw _ (List.mem_of_getElem? (i := 3) rfl))) (mvT hZ (hw _ (List.mem_of_getElem? (i := 4) rfl))) (by decide) (backOf (W := 0) (rmc12 l Z a0 hw [] a1 k1 p1 p2 p3 p4 p5 p6 h24 n0 Z24 V25 lo1) hZ (hw _ (List.mem_of_getElem? (i := 4) rfl)) (hw _ (List.mem_of_getElem? (i := 3) rfl)) (by decide) (by decide)) (g := (mkF m 38 #[.val (.long p1), .second, .val (.long p2), .second, .val (.long p3), .second, .val (.long p4), .second, .val (.long p5), .second, .val (.long p6), .second, .val (.ref a1), .unset, .unset, .unset, .unset, .unset, .unset, .unset, .unset, .unset, .unset, .unset, .unset, .unset] [(.int (2 : Int32)), (.int (1 : Int32)), (.ref a1)])) rfl (by rw [hml]; rfl) (argsL := [(.ref a1), (.int (1 : Int32)), (.int (2 : Int32))]) (rest := []) (lenOf pd__28_5bJII_29V rfl) rfl (by show 2 * 0 + _ ≤ _; exact Nat.le_of_eq rfl) (hb hby at_38) (fun _ _ => ⟨rfl, e24, (by decide : 1 + 0 ≤ _), (by decide : 6 + 0 ≤ _)⟩)
  dsimp only [Pt.U, Pt.locs, Pt.cells, Pt.slots] at X27 ul27 uy27 uz27 st27 hQ27
  subst ul27 uy27 uz27
  obtain ⟨rfl, Nq27, K27, z27_0, z27_1, z27_2, z27_3, z27_4, z27_5, hz27, V27⟩ := hQ27
  have E28 := E26.keep K27
  have Z27 : n0 ≤ T27.heap.size := Nat.le_trans Z24 K27.1
  have N27 := Fr.app N24 Nq27
  obtain ⟨lc27, X27, N27⟩ := own_lc X27 N27
  obtain ⟨_, _, ⟨T29, uL29, uk29, un29⟩, -, X29, ⟨Lc29, hQ29, ul29, uy29, uz29⟩, st29⟩ := Jvm.LawKit.callS X27 hx (y := (⟨"com/example/kdata/kdata/LongHeapRemoveLeastPinLaw", "cs", "([JII)V"⟩ : MethodName)) hown (mvT hZ (hw _ (List.mem_of_getElem? (i := 1) rfl))) (mvT hZ (hw _ (List.mem_of_getElem? (i := 2) rfl))) (mvT hZ (hw _ (List.mem_of_getElem? (i := 3) rfl))) (mvT hZ (hw _ (List.mem_of_getElem? (i := 4) rfl))) (by decide) (backOf (W := 0) (rmc02 l Z a0 hw [] a1 k1 z27_0 z27_1 z27_2 z27_3 z27_4 z27_5 T27.heap n0 Z27 V27 lo1) hZ (hw _ (List.mem_of_getElem? (i := 4) rfl)) (hw _ (List.mem_of_getElem? (i := 3) rfl)) (by decide) (by decide)) (g := (mkF m 45 #[.val (.long p1), .second, .val (.long p2), .second, .val (.long p3), .second, .val (.long p4), .second, .val (.long p5), .second, .val (.long p6), .second, .val (.ref a1), .unset, .unset, .unset, .unset, .unset, .unset, .unset, .unset, .unset, .unset, .unset, .unset, .unset] [(.int (2 : Int32)), (.int (0 : Int32)), (.ref a1)])) rfl (by rw [hml]; rfl) (argsL := [(.ref a1), (.int (0 : Int32)), (.int (2 : Int32))]) (rest := []) (lenOf pd__28_5bJII_29V rfl) rfl (by show 2 * 0 + _ ≤ _; exact Nat.le_of_eq rfl) (hb hby at_45) (fun _ _ => ⟨rfl, rfl, (by decide : 1 + 0 ≤ _), (by decide : 6 + 0 ≤ _)⟩)
  dsimp only [Pt.U, Pt.locs, Pt.cells, Pt.slots] at X29 ul29 uy29 uz29 st29 hQ29
  subst ul29 uy29 uz29
  obtain ⟨rfl, Nq29, K29, z29_0, z29_1, z29_2, z29_3, z29_4, z29_5, hz29, V29⟩ := hQ29
  have E30 := E28.keep K29
  have Z29 : n0 ≤ T29.heap.size := Nat.le_trans Z27 K29.1
  have N29 := Fr.app N27 Nq29
  obtain ⟨lc29, X29, N29⟩ := own_lc X29 N29
  obtain ⟨_, _, ⟨T31, uL31, uk31, un31⟩, -, X31, ⟨Lc31, hQ31, ul31, uy31, uz31⟩, st31⟩ := Jvm.LawKit.callS X29 hx (y := (⟨"com/example/kdata/kdata/LongHeapRemoveLeastPinLaw", "cs", "([JII)V"⟩ : MethodName)) hown (mvT hZ (hw _ (List.mem_of_getElem? (i := 1) rfl))) (mvT hZ (hw _ (List.mem_of_getElem? (i := 2) rfl))) (mvT hZ (hw _ (List.mem_of_getElem? (i := 3) rfl))) (mvT hZ (hw _ (List.mem_of_getElem? (i := 4) rfl))) (by decide) (backOf (W := 0) (rmc01 l Z a0 hw [] a1 k1 z29_0 z29_1 z29_2 z29_3 z29_4 z29_5 T29.heap n0 Z29 V29 lo1) hZ (hw _ (List.mem_of_getElem? (i := 4) rfl)) (hw _ (List.mem_of_getElem? (i := 3) rfl)) (by decide) (by decide)) (g := (mkF m 52 #[.val (.long p1), .second, .val (.long p2), .second, .val (.long p3), .second, .val (.long p4), .second, .val (.long p5), .second, .val (.long p6), .second, .val (.ref a1), .unset, .unset, .unset, .unset, .unset, .unset, .unset, .unset, .unset, .unset, .unset, .unset, .unset] [(.int (1 : Int32)), (.int (0 : Int32)), (.ref a1)])) rfl (by rw [hml]; rfl) (argsL := [(.ref a1), (.int (0 : Int32)), (.int (1 : Int32))]) (rest := []) (lenOf pd__28_5bJII_29V rfl) rfl (by show 2 * 0 + _ ≤ _; exact Nat.le_of_eq rfl) (hb hby at_52) (fun _ _ => ⟨rfl, rfl, (by decide : 1 + 0 ≤ _), (by decide : 6 + 0 ≤ _)⟩)
  dsimp only [Pt.U, Pt.locs, Pt.cells, Pt.slots] at X31 ul31 uy31 uz31 st31 hQ31
  subst ul31 uy31 uz31
  obtain ⟨rfl, Nq31, K31, z31_0, z31_1, z31_2, z31_3, z31_4, z31_5, hz31, V31⟩ := hQ31
  have E32 := E30.keep K31
  have Z31 : n0 ≤ T31.heap.size := Nat.le_trans Z29 K31.1
  have N31 := Fr.app N29 Nq31
  obtain ⟨lc31, X31, N31⟩ := own_lc X31 N31
  obtain ⟨_, _, ⟨T33, uL33, uk33, un33⟩, -, X33, ⟨Lc33, hQ33, ul33, uy33, uz33⟩, st33⟩ := Jvm.LawKit.callS X31 hx (y := (⟨"com/example/kdata/kdata/LongHeapRemoveLeastPinLaw", "cs", "([JII)V"⟩ : MethodName)) hown (mvT hZ (hw _ (List.mem_of_getElem? (i := 1) rfl))) (mvT hZ (hw _ (List.mem_of_getElem? (i := 2) rfl))) (mvT hZ (hw _ (List.mem_of_getElem? (i := 3) rfl))) (mvT hZ (hw _ (List.mem_of_getElem? (i := 4) rfl))) (by decide) (backOf (W := 0) (rmc45 l Z a0 hw [] a1 k1 z31_0 z31_1 z31_2 z31_3 z31_4 z31_5 T31.heap n0 Z31 V31 lo1) hZ (hw _ (List.mem_of_getElem? (i := 4) rfl)) (hw _ (List.mem_of_getElem? (i := 3) rfl)) (by decide) (by decide)) (g := (mkF m 59 #[.val (.long p1), .second, .val (.long p2), .second, .val (.long p3), .second, .val (.long p4), .second, .val (.long p5), .second, .val (.long p6), .second, .val (.ref a1), .unset, .unset, .unset, .unset, .unset, .unset, .unset, .unset, .unset, .unset, .unset, .unset, .unset] [(.int (5 : Int32)), (.int (4 : Int32)), (.ref a1)])) rfl (by rw [hml]; rfl) (argsL := [(.ref a1), (.int (4 : Int32)), (.int (5 : Int32))]) (rest := []) (lenOf pd__28_5bJII_29V rfl) rfl (by show 2 * 0 + _ ≤ _; exact Nat.le_of_eq rfl) (hb hby at_59) (fun _ _ => ⟨rfl, rfl, (by decide : 1 + 0 ≤ _), (by decide : 6 + 0 ≤ _)⟩)
  dsimp only [Pt.U, Pt.locs, Pt.cells, Pt.slots] at X33 ul33 uy33 uz33 st33 hQ33
  subst ul33 uy33 uz33
  obtain ⟨rfl, Nq33, K33, z33_0, z33_1, z33_2, z33_3, z33_4, z33_5, hz33, V33⟩ := hQ33
  have E34 := E32.keep K33
  have Z33 : n0 ≤ T33.heap.size := Nat.le_trans Z31 K33.1
  have N33 := Fr.app N31 Nq33
  obtain ⟨lc33, X33, N33⟩ := own_lc X33 N33
  obtain ⟨_, _, ⟨T35, uL35, uk35, un35⟩, -, X35, ⟨Lc35, hQ35, ul35, uy35, uz35⟩, st35⟩ := Jvm.LawKit.callS X33 hx (y := (⟨"com/example/kdata/kdata/LongHeapRemoveLeastPinLaw", "cs", "([JII)V"⟩ : MethodName)) hown (mvT hZ (hw _ (List.mem_of_getElem? (i := 1) rfl))) (mvT hZ (hw _ (List.mem_of_getElem? (i := 2) rfl))) (mvT hZ (hw _ (List.mem_of_getElem? (i := 3) rfl))) (mvT hZ (hw _ (List.mem_of_getElem? (i := 4) rfl))) (by decide) (backOf (W := 0) (rmc35 l Z a0 hw [] a1 k1 z33_0 z33_1 z33_2 z33_3 z33_4 z33_5 T33.heap n0 Z33 V33 lo1) hZ (hw _ (List.mem_of_getElem? (i := 4) rfl)) (hw _ (List.mem_of_getElem? (i := 3) rfl)) (by decide) (by decide)) (g := (mkF m 66 #[.val (.long p1), .second, .val (.long p2), .second, .val (.long p3), .second, .val (.long p4), .second, .val (.long p5), .second, .val (.long p6), .second, .val (.ref a1), .unset, .unset, .unset, .unset, .unset, .unset, .unset, .unset, .unset, .unset, .unset, .unset, .unset] [(.int (5 : Int32)), (.int (3 : Int32)), (.ref a1)])) rfl (by rw [hml]; rfl) (argsL := [(.ref a1), (.int (3 : Int32)), (.int (5 : Int32))]) (rest := []) (lenOf pd__28_5bJII_29V rfl) rfl (by show 2 * 0 + _ ≤ _; exact Nat.le_of_eq rfl) (hb hby at_66) (fun _ _ => ⟨rfl, rfl, (by decide : 1 + 0 ≤ _), (by decide : 6 + 0 ≤ _)⟩)
  dsimp only [Pt.U, Pt.locs, Pt.cells, Pt.slots] at X35 ul35 uy35 uz35 st35 hQ35
  subst ul35 uy35 uz35
  obtain ⟨rfl, Nq35, K35, z35_0, z35_1, z35_2, z35_3, z35_4, z35_5, hz35, V35⟩ := hQ35
  have E36 := E34.keep K35
  have Z35 : n0 ≤ T35.heap.size := Nat.le_trans Z33 K35.1
  have N35 := Fr.app N33 Nq35
  obtain ⟨lc35, X35, N35⟩ := own_lc X35 N35
  obtain ⟨_, _, ⟨T37, uL37, uk37, un37⟩, -, X37, ⟨Lc37, hQ37, ul37, uy37, uz37⟩, st37⟩ := Jvm.LawKit.callS X35 hx (y := (⟨"com/example/kdata/kdata/LongHeapRemoveLeastPinLaw", "cs", "([JII)V"⟩ : MethodName)) hown (mvT hZ (hw _ (List.mem_of_getElem? (i := 1) rfl))) (mvT hZ (hw _ (List.mem_of_getElem? (i := 2) rfl))) (mvT hZ (hw _ (List.mem_of_getElem? (i := 3) rfl))) (mvT hZ (hw _ (List.mem_of_getElem? (i := 4) rfl))) (by decide) (backOf (W := 0) (rmc34 l Z a0 hw [] a1 k1 z35_0 z35_1 z35_2 z35_3 z35_4 z35_5 T35.heap n0 Z35 V35 lo1) hZ (hw _ (List.mem_of_getElem? (i := 4) rfl)) (hw _ (List.mem_of_getElem? (i := 3) rfl)) (by decide) (by decide)) (g := (mkF m 73 #[.val (.long p1), .second, .val (.long p2), .second, .val (.long p3), .second, .val (.long p4), .second, .val (.long p5), .second, .val (.long p6), .second, .val (.ref a1), .unset, .unset, .unset, .unset, .unset, .unset, .unset, .unset, .unset, .unset, .unset, .unset, .unset] [(.int (4 : Int32)), (.int (3 : Int32)), (.ref a1)])) rfl (by rw [hml]; rfl) (argsL := [(.ref a1), (.int (3 : Int32)), (.int (4 : Int32))]) (rest := []) (lenOf pd__28_5bJII_29V rfl) rfl (by show 2 * 0 + _ ≤ _; exact Nat.le_of_eq rfl) (hb hby at_73) (fun _ _ => ⟨rfl, rfl, (by decide : 1 + 0 ≤ _), (by decide : 6 + 0 ≤ _)⟩)
  dsimp only [Pt.U, Pt.locs, Pt.cells, Pt.slots] at X37 ul37 uy37 uz37 st37 hQ37
  subst ul37 uy37 uz37
  obtain ⟨rfl, Nq37, K37, z37_0, z37_1, z37_2, z37_3, z37_4, z37_5, hz37, V37⟩ := hQ37
  have E38 := E36.keep K37
  have Z37 : n0 ≤ T37.heap.size := Nat.le_trans Z35 K37.1
  have N37 := Fr.app N35 Nq37
  obtain ⟨lc37, X37, N37⟩ := own_lc X37 N37
  obtain ⟨_, _, ⟨T39, uL39, uk39, un39⟩, -, X39, ⟨Lc39, hQ39, ul39, uy39, uz39⟩, st39⟩ := Jvm.LawKit.callS X37 hx (y := (⟨"com/example/kdata/kdata/LongHeapRemoveLeastPinLaw", "cs", "([JII)V"⟩ : MethodName)) hown (mvT hZ (hw _ (List.mem_of_getElem? (i := 1) rfl))) (mvT hZ (hw _ (List.mem_of_getElem? (i := 2) rfl))) (mvT hZ (hw _ (List.mem_of_getElem? (i := 3) rfl))) (mvT hZ (hw _ (List.mem_of_getElem? (i := 4) rfl))) (by decide) (backOf (W := 0) (rmc03 l Z a0 hw [] a1 k1 z37_0 z37_1 z37_2 z37_3 z37_4 z37_5 T37.heap n0 Z37 V37 lo1) hZ (hw _ (List.mem_of_getElem? (i := 4) rfl)) (hw _ (List.mem_of_getElem? (i := 3) rfl)) (by decide) (by decide)) (g := (mkF m 80 #[.val (.long p1), .second, .val (.long p2), .second, .val (.long p3), .second, .val (.long p4), .second, .val (.long p5), .second, .val (.long p6), .second, .val (.ref a1), .unset, .unset, .unset, .unset, .unset, .unset, .unset, .unset, .unset, .unset, .unset, .unset, .unset] [(.int (3 : Int32)), (.int (0 : Int32)), (.ref a1)])) rfl (by rw [hml]; rfl) (argsL := [(.ref a1), (.int (0 : Int32)), (.int (3 : Int32))]) (rest := []) (lenOf pd__28_5bJII_29V rfl) rfl (by show 2 * 0 + _ ≤ _; exact Nat.le_of_eq rfl) (hb hby at_80) (fun _ _ => ⟨rfl, rfl, (by decide : 1 + 0 ≤ _), (by decide : 6 + 0 ≤ _)⟩)
  dsimp only [Pt.U, Pt.locs, Pt.cells, Pt.slots] at X39 ul39 uy39 uz39 st39 hQ39
  subst ul39 uy39 uz39
  obtain ⟨rfl, Nq39, K39, z39_0, z39_1, z39_2, z39_3, z39_4, z39_5, hz39, V39⟩ := hQ39
  have E40 := E38.keep K39
  have Z39 : n0 ≤ T39.heap.size := Nat.le_trans Z37 K39.1
  have N39 := Fr.app N37 Nq39
  obtain ⟨lc39, X39, N39⟩ := own_lc X39 N39
  obtain ⟨_, _, ⟨T41, uL41, uk41, un41⟩, -, X41, ⟨Lc41, hQ41, ul41, uy41, uz41⟩, st41⟩ := Jvm.LawKit.callS X39 hx (y := (⟨"com/example/kdata/kdata/LongHeapRemoveLeastPinLaw", "cs", "([JII)V"⟩ : MethodName)) hown (mvT hZ (hw _ (List.mem_of_getElem? (i := 1) rfl))) (mvT hZ (hw _ (List.mem_of_getElem? (i := 2) rfl))) (mvT hZ (hw _ (List.mem_of_getElem? (i := 3) rfl))) (mvT hZ (hw _ (List.mem_of_getElem? (i := 4) rfl))) (by decide) (backOf (W := 0) (rmc14 l Z a0 hw [] a1 k1 z39_0 z39_1 z39_2 z39_3 z39_4 z39_5 T39.heap n0 Z39 V39 lo1) hZ (hw _ (List.mem_of_getElem? (i := 4) rfl)) (hw _ (List.mem_of_getElem? (i := 3) rfl)) (by decide) (by decide)) (g := (mkF m 87 #[.val (.long p1), .second, .val (.long p2), .second, .val (.long p3), .second, .val (.long p4), .second, .val (.long p5), .second, .val (.long p6), .second, .val (.ref a1), .unset, .unset, .unset, .unset, .unset, .unset, .unset, .unset, .unset, .unset, .unset, .unset, .unset] [(.int (4 : Int32)), (.int (1 : Int32)), (.ref a1)])) rfl (by rw [hml]; rfl) (argsL := [(.ref a1), (.int (1 : Int32)), (.int (4 : Int32))]) (rest := []) (lenOf pd__28_5bJII_29V rfl) rfl (by show 2 * 0 + _ ≤ _; exact Nat.le_of_eq rfl) (hb hby at_87) (fun _ _ => ⟨rfl, rfl, (by decide : 1 + 0 ≤ _), (by decide : 6 + 0 ≤ _)⟩)
  dsimp only [Pt.U, Pt.locs, Pt.cells, Pt.slots] at X41 ul41 uy41 uz41 st41 hQ41
  subst ul41 uy41 uz41
  obtain ⟨rfl, Nq41, K41, z41_0, z41_1, z41_2, z41_3, z41_4, z41_5, hz41, V41⟩ := hQ41
  have E42 := E40.keep K41
  have Z41 : n0 ≤ T41.heap.size := Nat.le_trans Z39 K41.1
  have N41 := Fr.app N39 Nq41
  obtain ⟨lc41, X41, N41⟩ := own_lc X41 N41
  obtain ⟨_, _, ⟨T43, uL43, uk43, un43⟩, -, X43, ⟨Lc43, hQ43, ul43, uy43, uz43⟩, st43⟩ := Jvm.LawKit.callS X41 hx (y := (⟨"com/example/kdata/kdata/LongHeapRemoveLeastPinLaw", "cs", "([JII)V"⟩ : MethodName)) hown (mvT hZ (hw _ (List.mem_of_getElem? (i := 1) rfl))) (mvT hZ (hw _ (List.mem_of_getElem? (i := 2) rfl))) (mvT hZ (hw _ (List.mem_of_getElem? (i := 3) rfl))) (mvT hZ (hw _ (List.mem_of_getElem? (i := 4) rfl))) (by decide) (backOf (W := 0) (rmc25 l Z a0 hw [] a1 k1 z41_0 z41_1 z41_2 z41_3 z41_4 z41_5 T41.heap n0 Z41 V41 lo1) hZ (hw _ (List.mem_of_getElem? (i := 4) rfl)) (hw _ (List.mem_of_getElem? (i := 3) rfl)) (by decide) (by decide)) (g := (mkF m 94 #[.val (.long p1), .second, .val (.long p2), .second, .val (.long p3), .second, .val (.long p4), .second, .val (.long p5), .second, .val (.long p6), .second, .val (.ref a1), .unset, .unset, .unset, .unset, .unset, .unset, .unset, .unset, .unset, .unset, .unset, .unset, .unset] [(.int (5 : Int32)), (.int (2 : Int32)), (.ref a1)])) rfl (by rw [hml]; rfl) (argsL := [(.ref a1), (.int (2 : Int32)), (.int (5 : Int32))]) (rest := []) (lenOf pd__28_5bJII_29V rfl) rfl (by show 2 * 0 + _ ≤ _; exact Nat.le_of_eq rfl) (hb hby at_94) (fun _ _ => ⟨rfl, rfl, (by decide : 1 + 0 ≤ _), (by decide : 6 + 0 ≤ _)⟩)
  dsimp only [Pt.U, Pt.locs, Pt.cells, Pt.slots] at X43 ul43 uy43 uz43 st43 hQ43
  subst ul43 uy43 uz43
  obtain ⟨rfl, Nq43, K43, z43_0, z43_1, z43_2, z43_3, z43_4, z43_5, hz43, V43⟩ := hQ43
  have E44 := E42.keep K43
  have Z43 : n0 ≤ T43.heap.size := Nat.le_trans Z41 K43.1
  have N43 := Fr.app N41 Nq43
  obtain ⟨lc43, X43, N43⟩ := own_lc X43 N43
  obtain ⟨_, _, ⟨T45, uL45, uk45, un45⟩, -, X45, ⟨Lc45, hQ45, ul45, uy45, uz45⟩, st45⟩ := Jvm.LawKit.callS X43 hx (y := (⟨"com/example/kdata/kdata/LongHeapRemoveLeastPinLaw", "cs", "([JII)V"⟩ : MethodName)) hown (mvT hZ (hw _ (List.mem_of_getElem? (i := 1) rfl))) (mvT hZ (hw _ (List.mem_of_getElem? (i := 2) rfl))) (mvT hZ (hw _ (List.mem_of_getElem? (i := 3) rfl))) (mvT hZ (hw _ (List.mem_of_getElem? (i := 4) rfl))) (by decide) (backOf (W := 0) (rmc24 l Z a0 hw [] a1 k1 z43_0 z43_1 z43_2 z43_3 z43_4 z43_5 T43.heap n0 Z43 V43 lo1) hZ (hw _ (List.mem_of_getElem? (i := 4) rfl)) (hw _ (List.mem_of_getElem? (i := 3) rfl)) (by decide) (by decide)) (g := (mkF m 101 #[.val (.long p1), .second, .val (.long p2), .second, .val (.long p3), .second, .val (.long p4), .second, .val (.long p5), .second, .val (.long p6), .second, .val (.ref a1), .unset, .unset, .unset, .unset, .unset, .unset, .unset, .unset, .unset, .unset, .unset, .unset, .unset] [(.int (4 : Int32)), (.int (2 : Int32)), (.ref a1)])) rfl (by rw [hml]; rfl) (argsL := [(.ref a1), (.int (2 : Int32)), (.int (4 : Int32))]) (rest := []) (lenOf pd__28_5bJII_29V rfl) rfl (by show 2 * 0 + _ ≤ _; exact Nat.le_of_eq rfl) (hb hby at_101) (fun _ _ => ⟨rfl, rfl, (by decide : 1 + 0 ≤ _), (by decide : 6 + 0 ≤ _)⟩)
  dsimp only [Pt.U, Pt.locs, Pt.cells, Pt.slots] at X45 ul45 uy45 uz45 st45 hQ45
  subst ul45 uy45 uz45
  obtain ⟨rfl, Nq45, K45, z45_0, z45_1, z45_2, z45_3, z45_4, z45_5, hz45, V45⟩ := hQ45
  have E46 := E44.keep K45
  have Z45 : n0 ≤ T45.heap.size := Nat.le_trans Z43 K45.1
  have N45 := Fr.app N43 Nq45
  obtain ⟨lc45, X45, N45⟩ := own_lc X45 N45
  obtain ⟨_, _, ⟨T47, uL47, uk47, un47⟩, -, X47, ⟨Lc47, hQ47, ul47, uy47, uz47⟩, st47⟩ := Jvm.LawKit.callS X45 hx (y := (⟨"com/example/kdata/kdata/LongHeapRemoveLeastPinLaw", "cs", "([JII)V"⟩ : MethodName)) hown (mvT hZ (hw _ (List.mem_of_getElem? (i := 1) rfl))) (mvT hZ (hw _ (List.mem_of_getElem? (i := 2) rfl))) (mvT hZ (hw _ (List.mem_of_getElem? (i := 3) rfl))) (mvT hZ (hw _ (List.mem_of_getElem? (i := 4) rfl))) (by decide) (backOf (W := 0) (rmc13 l Z a0 hw [] a1 k1 z45_0 z45_1 z45_2 z45_3 z45_4 z45_5 T45.heap n0 Z45 V45 lo1) hZ (hw _ (List.mem_of_getElem? (i := 4) rfl)) (hw _ (List.mem_of_getElem? (i := 3) rfl)) (by decide) (by decide)) (g := (mkF m 108 #[.val (.long p1), .second, .val (.long p2), .second, .val (.long p3), .second, .val (.long p4), .second, .val (.long p5), .second, .val (.long p6), .second, .val (.ref a1), .unset, .unset, .unset, .unset, .unset, .unset, .unset, .unset, .unset, .unset, .unset, .unset, .unset] [(.int (3 : Int32)), (.int (1 : Int32)), (.ref a1)])) rfl (by rw [hml]; rfl) (argsL := [(.ref a1), (.int (1 : Int32)), (.int (3 : Int32))]) (rest := []) (lenOf pd__28_5bJII_29V rfl) rfl (by show 2 * 0 + _ ≤ _; exact Nat.le_of_eq rfl) (hb hby at_108) (fun _ _ => ⟨rfl, rfl, (by decide : 1 + 0 ≤ _), (by decide : 6 + 0 ≤ _)⟩)
  dsimp only [Pt.U, Pt.locs, Pt.cells, Pt.slots] at X47 ul47 uy47 uz47 st47 hQ47
  subst ul47 uy47 uz47
  obtain ⟨rfl, Nq47, K47, z47_0, z47_1, z47_2, z47_3, z47_4, z47_5, hz47, V47⟩ := hQ47
  have E48 := E46.keep K47
  have Z47 : n0 ≤ T47.heap.size := Nat.le_trans Z45 K47.1
  have N47 := Fr.app N45 Nq47
  obtain ⟨lc47, X47, N47⟩ := own_lc X47 N47
  obtain ⟨_, _, ⟨T49, uL49, uk49, un49⟩, -, X49, ⟨Lc49, hQ49, ul49, uy49, uz49⟩, st49⟩ := Jvm.LawKit.callS X47 hx (y := (⟨"com/example/kdata/kdata/LongHeapRemoveLeastPinLaw", "cs", "([JII)V"⟩ : MethodName)) hown (mvT hZ (hw _ (List.mem_of_getElem? (i := 1) rfl))) (mvT hZ (hw _ (List.mem_of_getElem? (i := 2) rfl))) (mvT hZ (hw _ (List.mem_of_getElem? (i := 3) rfl))) (mvT hZ (hw _ (List.mem_of_getElem? (i := 4) rfl))) (by decide) (backOf (W := 0) (rmc23 l Z a0 hw [] a1 k1 z47_0 z47_1 z47_2 z47_3 z47_4 z47_5 T47.heap n0 Z47 V47 lo1) hZ (hw _ (List.mem_of_getElem? (i := 4) rfl)) (hw _ (List.mem_of_getElem? (i := 3) rfl)) (by decide) (by decide)) (g := (mkF m 115 #[.val (.long p1), .second, .val (.long p2), .second, .val (.long p3), .second, .val (.long p4), .second, .val (.long p5), .second, .val (.long p6), .second, .val (.ref a1), .unset, .unset, .unset, .unset, .unset, .unset, .unset, .unset, .unset, .unset, .unset, .unset, .unset] [(.int (3 : Int32)), (.int (2 : Int32)), (.ref a1)])) rfl (by rw [hml]; rfl) (argsL := [(.ref a1), (.int (2 : Int32)), (.int (3 : Int32))]) (rest := []) (lenOf pd__28_5bJII_29V rfl) rfl (by show 2 * 0 + _ ≤ _; exact Nat.le_of_eq rfl) (hb hby at_115) (fun _ _ => ⟨rfl, rfl, (by decide : 1 + 0 ≤ _), (by decide : 6 + 0 ≤ _)⟩)
  dsimp only [Pt.U, Pt.locs, Pt.cells, Pt.slots] at X49 ul49 uy49 uz49 st49 hQ49
  subst ul49 uy49 uz49
  obtain ⟨rfl, Nq49, K49, z49_0, z49_1, z49_2, z49_3, z49_4, z49_5, hz49, V49⟩ := hQ49
  have E50 := E48.keep K49
  have Z49 : n0 ≤ T49.heap.size := Nat.le_trans Z47 K49.1
  have N49 := Fr.app N47 Nq49
  obtain ⟨lc49, X49, N49⟩ := own_lc X49 N49
  obtain ⟨T51, h51, X51, e51, E51, A51, D51, -, st51⟩ := newO X49 hx hZ hown (hw _ (List.mem_of_getElem? (i := 5) rfl)) (hw _ (List.mem_of_getElem? (i := 6) rfl)) (hw _ (List.mem_of_getElem? (i := 7) rfl)) rfl (g := (mkF m 118 #[.val (.long p1), .second, .val (.long p2), .second, .val (.long p3), .second, .val (.long p4), .second, .val (.long p5), .second, .val (.long p6), .second, .val (.ref a1), .unset, .unset, .unset, .unset, .unset, .unset, .unset, .unset, .unset, .unset, .unset, .unset, .unset] [])) rfl (hb hby at_118) (by decide) (by decide)
  obtain ⟨a51, ga51⟩ : ∃ z, z = T49.heap.size := ⟨_, rfl⟩
  rw [← ga51] at A51 D51 st51
  have lt51_a1 : a1 < a51 := by rw [ga51]; exact E50.lt
  have E52 := E50.ext E51
  have V53 := V49.ext E51
  have lo51 : n0 ≤ a51 := Nat.le_trans Z49 (Nat.le_of_eq ga51.symm)
  have Z51 : n0 ≤ h51.size := Nat.le_trans Z49 E51.1
  have F54 : Fld Z h51 a51 "com/example/kdata/kdata/LongHeap" "data" "[J" .null := D51 (Or.inl (hw _ (List.mem_of_getElem? (i := 15) rfl))) (ty := (.array .long)) (by decide)
  have F55 : Fld Z h51 a51 "com/example/kdata/kdata/LongHeap" "size" "I" (.int (0 : Int32)) := D51 (Or.inl (hw _ (List.mem_of_getElem? (i := 22) rfl))) (ty := .int) (by decide)
  obtain ⟨_, _, ⟨T56, uL56, uk56, un56⟩, -, X56, ⟨Lc56, hQ56, ul56, uy56, uz56⟩, st56⟩ := X51.specialBack hx (y := (⟨"com/example/kdata/kdata/LongHeap", "<init>", "()V"⟩ : MethodName)) rfl hown (mvT hZ (hw _ (List.mem_of_getElem? (i := 8) rfl))) (mvT hZ (hw _ (List.mem_of_getElem? (i := 9) rfl))) (mvT hZ (hw _ (List.mem_of_getElem? (i := 10) rfl))) (by decide) (backOf (W := 1) (rmi l Z a0 hw [] a51 h51 n0 Z51 F54 F55 A51 lo51) hZ (hw _ (List.mem_of_getElem? (i := 10) rfl)) (hw _ (List.mem_of_getElem? (i := 7) rfl)) (by decide) (by decide)) (g := (mkF m 122 #[.val (.long p1), .second, .val (.long p2), .second, .val (.long p3), .second, .val (.long p4), .second, .val (.long p5), .second, .val (.long p6), .second, .val (.ref a1), .unset, .unset, .unset, .unset, .unset, .unset, .unset, .unset, .unset, .unset, .unset, .unset, .unset] [(.ref a51), (.ref a51)])) rfl (by rw [hml]; rfl) (Steps.refl _) (a := a51) (argsL := []) (rest := [(.ref a51)]) (lenOf pd__28_29V rfl) rfl (by show 2 * 0 + _ ≤ _; exact Nat.le_of_eq rfl) (hb hby at_122) (fun _ _ => ⟨rfl, e51, (by decide : 2 + 1 ≤ _), (by decide : 8 + 16 ≤ _)⟩)
  dsimp only [Pt.U, Pt.locs, Pt.cells, Pt.slots] at X56 ul56 uy56 uz56 st56 hQ56
  subst ul56 uy56 uz56
  obtain ⟨rfl, Nq56, K56, q56, kk56, ge56, Ea56, Fd56, Fs56, V56⟩ := hQ56
  have lq56_a1 : a1 < q56 := Nat.lt_of_lt_of_le E52.lt ge56
  have lq56_a51 : a51 < q56 := Nat.lt_of_lt_of_le A51.lt ge56
  have lo56 : n0 ≤ q56 := Nat.le_trans Z51 ge56
  have E57 := E52.keep K56
  have V58 := V53.keep K56 (ninS (Nat.ne_of_lt lt51_a1) nin0)
  have Z56 : n0 ≤ T56.heap.size := Nat.le_trans Z51 K56.1
  have N56 := Fr.app N49 Nq56
  obtain ⟨lc56, X56, N56⟩ := own_lc X56 N56
  obtain ⟨cq59, kq59, qa59, qb59, qc59⟩ := isOf hZ rfl Ea56
  obtain ⟨_, _, ⟨T59, uL59, uk59, un59⟩, -, X59, ⟨Lc59, hQ59, ul59, uy59, uz59⟩, st59⟩ := X56.virtualBack hx (y := (⟨"com/example/kdata/kdata/LongHeap", "add", "(J)V"⟩ : MethodName)) (z := (⟨"com/example/kdata/kdata/LongHeap", "add", "(J)V"⟩ : MethodName)) hown (mvT hZ (hw _ (List.mem_of_getElem? (i := 16) rfl))) (mvT hZ (hw _ (List.mem_of_getElem? (i := 17) rfl))) (notFace_of_selects (args := #[]) (mvT hZ (hw _ (List.mem_of_getElem? (i := 19) rfl)))) (mvT hZ (hw _ (List.mem_of_getElem? (i := 19) rfl))) (mvT hZ (hw _ (List.mem_of_getElem? (i := 18) rfl))) (by decide) (backOf (W := 0) (rma0 l Z a0 hw [] a51 q56 kk56 (0 : Int64) (0 : Int64) (0 : Int64) (0 : Int64) (0 : Int64) (0 : Int64) p1 T56.heap n0 Z56 Fd56 Fs56 Ea56 lo51 lo56 lq56_a51 V56) hZ (hw _ (List.mem_of_getElem? (i := 20) rfl)) (hw _ (List.mem_of_getElem? (i := 7) rfl)) (by decide) (by decide)) qa59 qc59 (g := (mkF m 130 #[.val (.long p1), .second, .val (.long p2), .second, .val (.long p3), .second, .val (.long p4), .second, .val (.long p5), .second, .val (.long p6), .second, .val (.ref a1), .val (.ref a51), .unset, .unset, .unset, .unset, .unset, .unset, .unset, .unset, .unset, .unset, .unset, .unset] [(.long p1), (.ref a51)])) rfl (by rw [hml]; rfl) (Steps.refl _) (argsL := [(.long p1)]) (rest := []) (lenOf pd__28J_29V rfl) rfl (by show 2 * 0 + _ ≤ _; exact Nat.le_of_eq rfl) (hb hby at_130) (fun _ _ => ⟨rfl, rfl, (by decide : 3 + 0 ≤ _), (by decide : 24 + 0 ≤ _)⟩)
  dsimp only [Pt.U, Pt.locs, Pt.cells, Pt.slots] at X59 ul59 uy59 uz59 st59 hQ59
  subst ul59 uy59 uz59
  obtain ⟨rfl, Nq59, K59, Ea59, Fd59, Fs59, z59_0, z59_1, z59_2, z59_3, z59_4, z59_5, hz59, V59⟩ := hQ59
  have E60 := E57.keep K59
  have V61 := V58.keep K59 (ninS (Nat.ne_of_lt lt51_a1) (ninS (Nat.ne_of_lt lq56_a1) nin0))
  have Z59 : n0 ≤ T59.heap.size := Nat.le_trans Z56 K59.1
  have N59 := Fr.app N56 Nq59
  obtain ⟨lc59, X59, N59⟩ := own_lc X59 N59
  obtain ⟨cq62, kq62, qa62, qb62, qc62⟩ := isOf hZ rfl Ea59
  obtain ⟨_, _, ⟨T62, uL62, uk62, un62⟩, -, X62, ⟨Lc62, hQ62, ul62, uy62, uz62⟩, st62⟩ := X59.virtualBack hx (y := (⟨"com/example/kdata/kdata/LongHeap", "add", "(J)V"⟩ : MethodName)) (z := (⟨"com/example/kdata/kdata/LongHeap", "add", "(J)V"⟩ : MethodName)) hown (mvT hZ (hw _ (List.mem_of_getElem? (i := 16) rfl))) (mvT hZ (hw _ (List.mem_of_getElem? (i := 17) rfl))) (notFace_of_selects (args := #[]) (mvT hZ (hw _ (List.mem_of_getElem? (i := 19) rfl)))) (mvT hZ (hw _ (List.mem_of_getElem? (i := 19) rfl))) (mvT hZ (hw _ (List.mem_of_getElem? (i := 18) rfl))) (by decide) (backOf (W := 0) (rma1 l Z a0 hw [] a51 q56 kk56 z59_0 z59_1 z59_2 z59_3 z59_4 z59_5 p2 T59.heap n0 Z59 Fd59 Fs59 Ea59 lo51 lo56 lq56_a51 V59) hZ (hw _ (List.mem_of_getElem? (i := 20) rfl)) (hw _ (List.mem_of_getElem? (i := 7) rfl)) (by decide) (by decide)) qa62 qc62 (g := (mkF m 136 #[.val (.long p1), .second, .val (.long p2), .second, .val (.long p3), .second, .val (.long p4), .second, .val (.long p5), .second, .val (.long p6), .second, .val (.ref a1), .val (.ref a51), .unset, .unset, .unset, .unset, .unset, .unset, .unset, .unset, .unset, .unset, .unset, .unset] [(.long p2), (.ref a51)])) rfl (by rw [hml]; rfl) (Steps.refl _) (argsL := [(.long p2)]) (rest := []) (lenOf pd__28J_29V rfl) rfl (by show 2 * 0 + _ ≤ _; exact Nat.le_of_eq rfl) (hb hby at_136) (fun _ _ => ⟨rfl, rfl, (by decide : 3 + 0 ≤ _), (by decide : 24 + 0 ≤ _)⟩)
  dsimp only [Pt.U, Pt.locs, Pt.cells, Pt.slots] at X62 ul62 uy62 uz62 st62 hQ62
  subst ul62 uy62 uz62
  obtain ⟨rfl, Nq62, K62, Ea62, Fd62, Fs62, z62_0, z62_1, z62_2, z62_3, z62_4, z62_5, hz62, V62⟩ := hQ62
  have E63 := E60.keep K62
  have V64 := V61.keep K62 (ninS (Nat.ne_of_lt lt51_a1) (ninS (Nat.ne_of_lt lq56_a1) nin0))
  have Z62 : n0 ≤ T62.heap.size := Nat.le_trans Z59 K62.1
  have N62 := Fr.app N59 Nq62
  obtain ⟨lc62, X62, N62⟩ := own_lc X62 N62
  obtain ⟨cq65, kq65, qa65, qb65, qc65⟩ := isOf hZ rfl Ea62
  obtain ⟨_, _, ⟨T65, uL65, uk65, un65⟩, -, X65, ⟨Lc65, hQ65, ul65, uy65, uz65⟩, st65⟩ := X62.virtualBack hx (y := (⟨"com/example/kdata/kdata/LongHeap", "add", "(J)V"⟩ : MethodName)) (z := (⟨"com/example/kdata/kdata/LongHeap", "add", "(J)V"⟩ : MethodName)) hown (mvT hZ (hw _ (List.mem_of_getElem? (i := 16) rfl))) (mvT hZ (hw _ (List.mem_of_getElem? (i := 17) rfl))) (notFace_of_selects (args := #[]) (mvT hZ (hw _ (List.mem_of_getElem? (i := 19) rfl)))) (mvT hZ (hw _ (List.mem_of_getElem? (i := 19) rfl))) (mvT hZ (hw _ (List.mem_of_getElem? (i := 18) rfl))) (by decide) (backOf (W := 0) (rma2 l Z a0 hw [] a51 q56 kk56 z62_0 z62_1 z62_2 z62_3 z62_4 z62_5 p3 T62.heap n0 Z62 Fd62 Fs62 Ea62 lo51 lo56 lq56_a51 V62) hZ (hw _ (List.mem_of_getElem? (i := 20) rfl)) (hw _ (List.mem_of_getElem? (i := 7) rfl)) (by decide) (by decide)) qa65 qc65 (g := (mkF m 143 #[.val (.long p1), .second, .val (.long p2), .second, .val (.long p3), .second, .val (.long p4), .second, .val (.long p5), .second, .val (.long p6), .second, .val (.ref a1), .val (.ref a51), .unset, .unset, .unset, .unset, .unset, .unset, .unset, .unset, .unset, .unset, .unset, .unset] [(.long p3), (.ref a51)])) rfl (by rw [hml]; rfl) (Steps.refl _) (argsL := [(.long p3)]) (rest := []) (lenOf pd__28J_29V rfl) rfl (by show 2 * 0 + _ ≤ _; exact Nat.le_of_eq rfl) (hb hby at_143) (fun _ _ => ⟨rfl, rfl, (by decide : 3 + 0 ≤ _), (by decide : 24 + 0 ≤ _)⟩)
  dsimp only [Pt.U, Pt.locs, Pt.cells, Pt.slots] at X65 ul65 uy65 uz65 st65 hQ65
  subst ul65 uy65 uz65
  obtain ⟨rfl, Nq65, K65, Ea65, Fd65, Fs65, z65_0, z65_1, z65_2, z65_3, z65_4, z65_5, hz65, V65⟩ := hQ65
  have E66 := E63.keep K65
  have V67 := V64.keep K65 (ninS (Nat.ne_of_lt lt51_a1) (ninS (Nat.ne_of_lt lq56_a1) nin0))
  have Z65 : n0 ≤ T65.heap.size := Nat.le_trans Z62 K65.1
  have N65 := Fr.app N62 Nq65
  obtain ⟨lc65, X65, N65⟩ := own_lc X65 N65
  obtain ⟨cq68, kq68, qa68, qb68, qc68⟩ := isOf hZ rfl Ea65
  obtain ⟨_, _, ⟨T68, uL68, uk68, un68⟩, -, X68, ⟨Lc68, hQ68, ul68, uy68, uz68⟩, st68⟩ := X65.virtualBack hx (y := (⟨"com/example/kdata/kdata/LongHeap", "add", "(J)V"⟩ : MethodName)) (z := (⟨"com/example/kdata/kdata/LongHeap", "add", "(J)V"⟩ : MethodName)) hown (mvT hZ (hw _ (List.mem_of_getElem? (i := 16) rfl))) (mvT hZ (hw _ (List.mem_of_getElem? (i := 17) rfl))) (notFace_of_selects (args := #[]) (mvT hZ (hw _ (List.mem_of_getElem? (i := 19) rfl)))) (mvT hZ (hw _ (List.mem_of_getElem? (i := 19) rfl))) (mvT hZ (hw _ (List.mem_of_getElem? (i := 18) rfl))) (by decide) (backOf (W := 0) (rma3 l Z a0 hw [] a51 q56 kk56 z65_0 z65_1 z65_2 z65_3 z65_4 z65_5 p4 T65.heap n0 Z65 Fd65 Fs65 Ea65 lo51 lo56 lq56_a51 V65) hZ (hw _ (List.mem_of_getElem? (i := 20) rfl)) (hw _ (List.mem_of_getElem? (i := 7) rfl)) (by decide) (by decide)) qa68 qc68 (g := (mkF m 150 #[.val (.long p1), .second, .val (.long p2), .second, .val (.long p3), .second, .val (.long p4), .second, .val (.long p5), .second, .val (.long p6), .second, .val (.ref a1), .val (.ref a51), .unset, .unset, .unset, .unset, .unset, .unset, .unset, .unset, .unset, .unset, .unset, .unset] [(.long p4), (.ref a51)])) rfl (by rw [hml]; rfl) (Steps.refl _) (argsL := [(.long p4)]) (rest := []) (lenOf pd__28J_29V rfl) rfl (by show 2 * 0 + _ ≤ _; exact Nat.le_of_eq rfl) (hb hby at_150) (fun _ _ => ⟨rfl, rfl, (by decide : 3 + 0 ≤ _), (by decide : 24 + 0 ≤ _)⟩)
  dsimp only [Pt.U, Pt.locs, Pt.cells, Pt.slots] at X68 ul68 uy68 uz68 st68 hQ68
  subst ul68 uy68 uz68
  obtain ⟨rfl, Nq68, K68, Ea68, Fd68, Fs68, z68_0, z68_1, z68_2, z68_3, z68_4, z68_5, hz68, V68⟩ := hQ68
  have E69 := E66.keep K68
  have V70 := V67.keep K68 (ninS (Nat.ne_of_lt lt51_a1) (ninS (Nat.ne_of_lt lq56_a1) nin0))
  have Z68 : n0 ≤ T68.heap.size := Nat.le_trans Z65 K68.1
  have N68 := Fr.app N65 Nq68
  obtain ⟨lc68, X68, N68⟩ := own_lc X68 N68
  obtain ⟨cq71, kq71, qa71, qb71, qc71⟩ := isOf hZ rfl Ea68
  obtain ⟨_, _, ⟨T71, uL71, uk71, un71⟩, -, X71, ⟨Lc71, hQ71, ul71, uy71, uz71⟩, st71⟩ := X68.virtualBack hx (y := (⟨"com/example/kdata/kdata/LongHeap", "add", "(J)V"⟩ : MethodName)) (z := (⟨"com/example/kdata/kdata/LongHeap", "add", "(J)V"⟩ : MethodName)) hown (mvT hZ (hw _ (List.mem_of_getElem? (i := 16) rfl))) (mvT hZ (hw _ (List.mem_of_getElem? (i := 17) rfl))) (notFace_of_selects (args := #[]) (mvT hZ (hw _ (List.mem_of_getElem? (i := 19) rfl)))) (mvT hZ (hw _ (List.mem_of_getElem? (i := 19) rfl))) (mvT hZ (hw _ (List.mem_of_getElem? (i := 18) rfl))) (by decide) (backOf (W := 0) (rma4 l Z a0 hw [] a51 q56 kk56 z68_0 z68_1 z68_2 z68_3 z68_4 z68_5 p5 T68.heap n0 Z68 Fd68 Fs68 Ea68 lo51 lo56 lq56_a51 V68) hZ (hw _ (List.mem_of_getElem? (i := 20) rfl)) (hw _ (List.mem_of_getElem? (i := 7) rfl)) (by decide) (by decide)) qa71 qc71 (g := (mkF m 157 #[.val (.long p1), .second, .val (.long p2), .second, .val (.long p3), .second, .val (.long p4), .second, .val (.long p5), .second, .val (.long p6), .second, .val (.ref a1), .val (.ref a51), .unset, .unset, .unset, .unset, .unset, .unset, .unset, .unset, .unset, .unset, .unset, .unset] [(.long p5), (.ref a51)])) rfl (by rw [hml]; rfl) (Steps.refl _) (argsL := [(.long p5)]) (rest := []) (lenOf pd__28J_29V rfl) rfl (by show 2 * 0 + _ ≤ _; exact Nat.le_of_eq rfl) (hb hby at_157) (fun _ _ => ⟨rfl, rfl, (by decide : 3 + 0 ≤ _), (by decide : 24 + 0 ≤ _)⟩)
  dsimp only [Pt.U, Pt.locs, Pt.cells, Pt.slots] at X71 ul71 uy71 uz71 st71 hQ71
  subst ul71 uy71 uz71
  obtain ⟨rfl, Nq71, K71, Ea71, Fd71, Fs71, z71_0, z71_1, z71_2, z71_3, z71_4, z71_5, hz71, V71⟩ := hQ71
  have E72 := E69.keep K71
  have V73 := V70.keep K71 (ninS (Nat.ne_of_lt lt51_a1) (ninS (Nat.ne_of_lt lq56_a1) nin0))
  have Z71 : n0 ≤ T71.heap.size := Nat.le_trans Z68 K71.1
  have N71 := Fr.app N68 Nq71
  obtain ⟨lc71, X71, N71⟩ := own_lc X71 N71
  obtain ⟨cq74, kq74, qa74, qb74, qc74⟩ := isOf hZ rfl Ea71
  obtain ⟨_, _, ⟨T74, uL74, uk74, un74⟩, -, X74, ⟨Lc74, hQ74, ul74, uy74, uz74⟩, st74⟩ := X71.virtualBack hx (y := (⟨"com/example/kdata/kdata/LongHeap", "add", "(J)V"⟩ : MethodName)) (z := (⟨"com/example/kdata/kdata/LongHeap", "add", "(J)V"⟩ : MethodName)) hown (mvT hZ (hw _ (List.mem_of_getElem? (i := 16) rfl))) (mvT hZ (hw _ (List.mem_of_getElem? (i := 17) rfl))) (notFace_of_selects (args := #[]) (mvT hZ (hw _ (List.mem_of_getElem? (i := 19) rfl)))) (mvT hZ (hw _ (List.mem_of_getElem? (i := 19) rfl))) (mvT hZ (hw _ (List.mem_of_getElem? (i := 18) rfl))) (by decide) (backOf (W := 0) (rma5 l Z a0 hw [] a51 q56 kk56 z71_0 z71_1 z71_2 z71_3 z71_4 z71_5 p6 T71.heap n0 Z71 Fd71 Fs71 Ea71 lo51 lo56 lq56_a51 V71) hZ (hw _ (List.mem_of_getElem? (i := 20) rfl)) (hw _ (List.mem_of_getElem? (i := 7) rfl)) (by decide) (by decide)) qa74 qc74 (g := (mkF m 164 #[.val (.long p1), .second, .val (.long p2), .second, .val (.long p3), .second, .val (.long p4), .second, .val (.long p5), .second, .val (.long p6), .second, .val (.ref a1), .val (.ref a51), .unset, .unset, .unset, .unset, .unset, .unset, .unset, .unset, .unset, .unset, .unset, .unset] [(.long p6), (.ref a51)])) rfl (by rw [hml]; rfl) (Steps.refl _) (argsL := [(.long p6)]) (rest := []) (lenOf pd__28J_29V rfl) rfl (by show 2 * 0 + _ ≤ _; exact Nat.le_of_eq rfl) (hb hby at_164) (fun _ _ => ⟨rfl, rfl, (by decide : 3 + 0 ≤ _), (by decide : 24 + 0 ≤ _)⟩)
  dsimp only [Pt.U, Pt.locs, Pt.cells, Pt.slots] at X74 ul74 uy74 uz74 st74 hQ74
  subst ul74 uy74 uz74
  obtain ⟨rfl, Nq74, K74, Ea74, Fd74, Fs74, z74_0, z74_1, z74_2, z74_3, z74_4, z74_5, hz74, V74⟩ := hQ74
  have E75 := E72.keep K74
  have V76 := V73.keep K74 (ninS (Nat.ne_of_lt lt51_a1) (ninS (Nat.ne_of_lt lq56_a1) nin0))
  have Z74 : n0 ≤ T74.heap.size := Nat.le_trans Z71 K74.1
  have N74 := Fr.app N71 Nq74
  obtain ⟨lc74, X74, N74⟩ := own_lc X74 N74
  obtain ⟨cq77, kq77, qa77, qb77, qc77⟩ := isOf hZ rfl Ea74
  obtain ⟨_, _, ⟨T77, uL77, uk77, un77⟩, -, X77, ⟨Lc77, hQ77, ul77, uy77, uz77⟩, st77⟩ := X74.virtualBack hx (y := (⟨"com/example/kdata/kdata/LongHeap", "removeLeast", "()J"⟩ : MethodName)) (z := (⟨"com/example/kdata/kdata/LongHeap", "removeLeast", "()J"⟩ : MethodName)) hown (mvT hZ (hw _ (List.mem_of_getElem? (i := 23) rfl))) (mvT hZ (hw _ (List.mem_of_getElem? (i := 24) rfl))) (notFace_of_selects (args := #[]) (mvT hZ (hw _ (List.mem_of_getElem? (i := 26) rfl)))) (mvT hZ (hw _ (List.mem_of_getElem? (i := 26) rfl))) (mvT hZ (hw _ (List.mem_of_getElem? (i := 25) rfl))) (by decide) (backOf (W := 0) (rmr6 l Z a0 hw [] a51 q56 kk56 z74_0 z74_1 z74_2 z74_3 z74_4 z74_5 T74.heap n0 Z74 Fd74 Fs74 Ea74 lo51 lo56 lq56_a51 V74) hZ (hw _ (List.mem_of_getElem? (i := 27) rfl)) (hw _ (List.mem_of_getElem? (i := 7) rfl)) (by decide) (by decide)) qa77 qc77 (g := (mkF m 169 #[.val (.long p1), .second, .val (.long p2), .second, .val (.long p3), .second, .val (.long p4), .second, .val (.long p5), .second, .val (.long p6), .second, .val (.ref a1), .val (.ref a51), .unset, .unset, .unset, .unset, .unset, .unset, .unset, .unset, .unset, .unset, .unset, .unset] [(.ref a51)])) rfl (by rw [hml]; rfl) (Steps.refl _) (argsL := []) (rest := []) (lenOf pd__28_29J rfl) rfl (by show 2 * 0 + _ ≤ _; exact Nat.le_of_eq rfl) (hb hby at_169) (fun _ _ => ⟨rfl, rfl, (by decide : 3 + 0 ≤ _), (by decide : 24 + 0 ≤ _)⟩)
  dsimp only [Pt.U, Pt.locs, Pt.cells, Pt.slots] at X77 ul77 uy77 uz77 st77 hQ77
  subst ul77 uy77 uz77
  obtain ⟨rfl, Nq77, K77, Ea77, Fd77, Fs77, z77_0, z77_1, z77_2, z77_3, z77_4, z77_5, hz77, V77⟩ := hQ77
  have E78 := E75.keep K77
  have V79 := V76.keep K77 (ninS (Nat.ne_of_lt lt51_a1) (ninS (Nat.ne_of_lt lq56_a1) nin0))
  have Z77 : n0 ≤ T77.heap.size := Nat.le_trans Z74 K77.1
  have N77 := Fr.app N74 Nq77
  obtain ⟨lc77, X77, N77⟩ := own_lc X77 N77
  obtain ⟨cq80, kq80, qa80, qb80, qc80⟩ := isOf hZ rfl Ea77
  obtain ⟨_, _, ⟨T80, uL80, uk80, un80⟩, -, X80, ⟨Lc80, hQ80, ul80, uy80, uz80⟩, st80⟩ := X77.virtualBack hx (y := (⟨"com/example/kdata/kdata/LongHeap", "removeLeast", "()J"⟩ : MethodName)) (z := (⟨"com/example/kdata/kdata/LongHeap", "removeLeast", "()J"⟩ : MethodName)) hown (mvT hZ (hw _ (List.mem_of_getElem? (i := 23) rfl))) (mvT hZ (hw _ (List.mem_of_getElem? (i := 24) rfl))) (notFace_of_selects (args := #[]) (mvT hZ (hw _ (List.mem_of_getElem? (i := 26) rfl)))) (mvT hZ (hw _ (List.mem_of_getElem? (i := 26) rfl))) (mvT hZ (hw _ (List.mem_of_getElem? (i := 25) rfl))) (by decide) (backOf (W := 0) (rmr5 l Z a0 hw [] a51 q56 kk56 z77_0 z77_1 z77_2 z77_3 z77_4 z77_5 T77.heap n0 Z77 Fd77 Fs77 Ea77 lo51 lo56 lq56_a51 V77) hZ (hw _ (List.mem_of_getElem? (i := 27) rfl)) (hw _ (List.mem_of_getElem? (i := 7) rfl)) (by decide) (by decide)) qa80 qc80 (g := (mkF m 176 #[.val (.long p1), .second, .val (.long p2), .second, .val (.long p3), .second, .val (.long p4), .second, .val (.long p5), .second, .val (.long p6), .second, .val (.ref a1), .val (.ref a51), .val (.long z74_0), .second, .unset, .unset, .unset, .unset, .unset, .unset, .unset, .unset, .unset, .unset] [(.ref a51)])) rfl (by rw [hml]; rfl) (Steps.refl _) (argsL := []) (rest := []) (lenOf pd__28_29J rfl) rfl (by show 2 * 0 + _ ≤ _; exact Nat.le_of_eq rfl) (hb hby at_176) (fun _ _ => ⟨rfl, rfl, (by decide : 3 + 0 ≤ _), (by decide : 24 + 0 ≤ _)⟩)
  dsimp only [Pt.U, Pt.locs, Pt.cells, Pt.slots] at X80 ul80 uy80 uz80 st80 hQ80
  subst ul80 uy80 uz80
  obtain ⟨rfl, Nq80, K80, Ea80, Fd80, Fs80, z80_0, z80_1, z80_2, z80_3, z80_4, z80_5, hz80, V80⟩ := hQ80
  have E81 := E78.keep K80
  have V82 := V79.keep K80 (ninS (Nat.ne_of_lt lt51_a1) (ninS (Nat.ne_of_lt lq56_a1) nin0))
  have Z80 : n0 ≤ T80.heap.size := Nat.le_trans Z77 K80.1
  have N80 := Fr.app N77 Nq80
  obtain ⟨lc80, X80, N80⟩ := own_lc X80 N80
  obtain ⟨cq83, kq83, qa83, qb83, qc83⟩ := isOf hZ rfl Ea80
  obtain ⟨_, _, ⟨T83, uL83, uk83, un83⟩, -, X83, ⟨Lc83, hQ83, ul83, uy83, uz83⟩, st83⟩ := X80.virtualBack hx (y := (⟨"com/example/kdata/kdata/LongHeap", "removeLeast", "()J"⟩ : MethodName)) (z := (⟨"com/example/kdata/kdata/LongHeap", "removeLeast", "()J"⟩ : MethodName)) hown (mvT hZ (hw _ (List.mem_of_getElem? (i := 23) rfl))) (mvT hZ (hw _ (List.mem_of_getElem? (i := 24) rfl))) (notFace_of_selects (args := #[]) (mvT hZ (hw _ (List.mem_of_getElem? (i := 26) rfl)))) (mvT hZ (hw _ (List.mem_of_getElem? (i := 26) rfl))) (mvT hZ (hw _ (List.mem_of_getElem? (i := 25) rfl))) (by decide) (backOf (W := 0) (rmr4 l Z a0 hw [] a51 q56 kk56 z80_0 z80_1 z80_2 z80_3 z80_4 z80_5 T80.heap n0 Z80 Fd80 Fs80 Ea80 lo51 lo56 lq56_a51 V80) hZ (hw _ (List.mem_of_getElem? (i := 27) rfl)) (hw _ (List.mem_of_getElem? (i := 7) rfl)) (by decide) (by decide)) qa83 qc83 (g := (mkF m 183 #[.val (.long p1), .second, .val (.long p2), .second, .val (.long p3), .second, .val (.long p4), .second, .val (.long p5), .second, .val (.long p6), .second, .val (.ref a1), .val (.ref a51), .val (.long z74_0), .second, .val (.long z77_0), .second, .unset, .unset, .unset, .unset, .unset, .unset, .unset, .unset] [(.ref a51)])) rfl (by rw [hml]; rfl) (Steps.refl _) (argsL := []) (rest := []) (lenOf pd__28_29J rfl) rfl (by show 2 * 0 + _ ≤ _; exact Nat.le_of_eq rfl) (hb hby at_183) (fun _ _ => ⟨rfl, rfl, (by decide : 3 + 0 ≤ _), (by decide : 24 + 0 ≤ _)⟩)
  dsimp only [Pt.U, Pt.locs, Pt.cells, Pt.slots] at X83 ul83 uy83 uz83 st83 hQ83
  subst ul83 uy83 uz83
  obtain ⟨rfl, Nq83, K83, Ea83, Fd83, Fs83, z83_0, z83_1, z83_2, z83_3, z83_4, z83_5, hz83, V83⟩ := hQ83
  have E84 := E81.keep K83
  have V85 := V82.keep K83 (ninS (Nat.ne_of_lt lt51_a1) (ninS (Nat.ne_of_lt lq56_a1) nin0))
  have Z83 : n0 ≤ T83.heap.size := Nat.le_trans Z80 K83.1
  have N83 := Fr.app N80 Nq83
  obtain ⟨lc83, X83, N83⟩ := own_lc X83 N83
  obtain ⟨cq86, kq86, qa86, qb86, qc86⟩ := isOf hZ rfl Ea83
  obtain ⟨_, _, ⟨T86, uL86, uk86, un86⟩, -, X86, ⟨Lc86, hQ86, ul86, uy86, uz86⟩, st86⟩ := X83.virtualBack hx (y := (⟨"com/example/kdata/kdata/LongHeap", "removeLeast", "()J"⟩ : MethodName)) (z := (⟨"com/example/kdata/kdata/LongHeap", "removeLeast", "()J"⟩ : MethodName)) hown (mvT hZ (hw _ (List.mem_of_getElem? (i := 23) rfl))) (mvT hZ (hw _ (List.mem_of_getElem? (i := 24) rfl))) (notFace_of_selects (args := #[]) (mvT hZ (hw _ (List.mem_of_getElem? (i := 26) rfl)))) (mvT hZ (hw _ (List.mem_of_getElem? (i := 26) rfl))) (mvT hZ (hw _ (List.mem_of_getElem? (i := 25) rfl))) (by decide) (backOf (W := 0) (rmr3 l Z a0 hw [] a51 q56 kk56 z83_0 z83_1 z83_2 z83_3 z83_4 z83_5 T83.heap n0 Z83 Fd83 Fs83 Ea83 lo51 lo56 lq56_a51 V83) hZ (hw _ (List.mem_of_getElem? (i := 27) rfl)) (hw _ (List.mem_of_getElem? (i := 7) rfl)) (by decide) (by decide)) qa86 qc86 (g := (mkF m 190 #[.val (.long p1), .second, .val (.long p2), .second, .val (.long p3), .second, .val (.long p4), .second, .val (.long p5), .second, .val (.long p6), .second, .val (.ref a1), .val (.ref a51), .val (.long z74_0), .second, .val (.long z77_0), .second, .val (.long z80_0), .second, .unset, .unset, .unset, .unset, .unset, .unset] [(.ref a51)])) rfl (by rw [hml]; rfl) (Steps.refl _) (argsL := []) (rest := []) (lenOf pd__28_29J rfl) rfl (by show 2 * 0 + _ ≤ _; exact Nat.le_of_eq rfl) (hb hby at_190) (fun _ _ => ⟨rfl, rfl, (by decide : 3 + 0 ≤ _), (by decide : 24 + 0 ≤ _)⟩)
  dsimp only [Pt.U, Pt.locs, Pt.cells, Pt.slots] at X86 ul86 uy86 uz86 st86 hQ86
  subst ul86 uy86 uz86
  obtain ⟨rfl, Nq86, K86, Ea86, Fd86, Fs86, z86_0, z86_1, z86_2, z86_3, z86_4, z86_5, hz86, V86⟩ := hQ86
  have E87 := E84.keep K86
  have V88 := V85.keep K86 (ninS (Nat.ne_of_lt lt51_a1) (ninS (Nat.ne_of_lt lq56_a1) nin0))
  have Z86 : n0 ≤ T86.heap.size := Nat.le_trans Z83 K86.1
  have N86 := Fr.app N83 Nq86
  obtain ⟨lc86, X86, N86⟩ := own_lc X86 N86
  obtain ⟨cq89, kq89, qa89, qb89, qc89⟩ := isOf hZ rfl Ea86
  obtain ⟨_, _, ⟨T89, uL89, uk89, un89⟩, -, X89, ⟨Lc89, hQ89, ul89, uy89, uz89⟩, st89⟩ := X86.virtualBack hx (y := (⟨"com/example/kdata/kdata/LongHeap", "removeLeast", "()J"⟩ : MethodName)) (z := (⟨"com/example/kdata/kdata/LongHeap", "removeLeast", "()J"⟩ : MethodName)) hown (mvT hZ (hw _ (List.mem_of_getElem? (i := 23) rfl))) (mvT hZ (hw _ (List.mem_of_getElem? (i := 24) rfl))) (notFace_of_selects (args := #[]) (mvT hZ (hw _ (List.mem_of_getElem? (i := 26) rfl)))) (mvT hZ (hw _ (List.mem_of_getElem? (i := 26) rfl))) (mvT hZ (hw _ (List.mem_of_getElem? (i := 25) rfl))) (by decide) (backOf (W := 0) (rmr2 l Z a0 hw [] a51 q56 kk56 z86_0 z86_1 z86_2 z86_3 z86_4 z86_5 T86.heap n0 Z86 Fd86 Fs86 Ea86 lo51 lo56 lq56_a51 V86) hZ (hw _ (List.mem_of_getElem? (i := 27) rfl)) (hw _ (List.mem_of_getElem? (i := 7) rfl)) (by decide) (by decide)) qa89 qc89 (g := (mkF m 197 #[.val (.long p1), .second, .val (.long p2), .second, .val (.long p3), .second, .val (.long p4), .second, .val (.long p5), .second, .val (.long p6), .second, .val (.ref a1), .val (.ref a51), .val (.long z74_0), .second, .val (.long z77_0), .second, .val (.long z80_0), .second, .val (.long z83_0), .second, .unset, .unset, .unset, .unset] [(.ref a51)])) rfl (by rw [hml]; rfl) (Steps.refl _) (argsL := []) (rest := []) (lenOf pd__28_29J rfl) rfl (by show 2 * 0 + _ ≤ _; exact Nat.le_of_eq rfl) (hb hby at_197) (fun _ _ => ⟨rfl, rfl, (by decide : 3 + 0 ≤ _), (by decide : 24 + 0 ≤ _)⟩)
  dsimp only [Pt.U, Pt.locs, Pt.cells, Pt.slots] at X89 ul89 uy89 uz89 st89 hQ89
  subst ul89 uy89 uz89
  obtain ⟨rfl, Nq89, K89, Ea89, Fd89, Fs89, z89_0, z89_1, z89_2, z89_3, z89_4, z89_5, hz89, V89⟩ := hQ89
  have E90 := E87.keep K89
  have V91 := V88.keep K89 (ninS (Nat.ne_of_lt lt51_a1) (ninS (Nat.ne_of_lt lq56_a1) nin0))
  have Z89 : n0 ≤ T89.heap.size := Nat.le_trans Z86 K89.1
  have N89 := Fr.app N86 Nq89
  obtain ⟨lc89, X89, N89⟩ := own_lc X89 N89
  obtain ⟨cq92, kq92, qa92, qb92, qc92⟩ := isOf hZ rfl Ea89
  obtain ⟨_, _, ⟨T92, uL92, uk92, un92⟩, -, X92, ⟨Lc92, hQ92, ul92, uy92, uz92⟩, st92⟩ := X89.virtualBack hx (y := (⟨"com/example/kdata/kdata/LongHeap", "removeLeast", "()J"⟩ : MethodName)) (z := (⟨"com/example/kdata/kdata/LongHeap", "removeLeast", "()J"⟩ : MethodName)) hown (mvT hZ (hw _ (List.mem_of_getElem? (i := 23) rfl))) (mvT hZ (hw _ (List.mem_of_getElem? (i := 24) rfl))) (notFace_of_selects (args := #[]) (mvT hZ (hw _ (List.mem_of_getElem? (i := 26) rfl)))) (mvT hZ (hw _ (List.mem_of_getElem? (i := 26) rfl))) (mvT hZ (hw _ (List.mem_of_getElem? (i := 25) rfl))) (by decide) (backOf (W := 0) (rmr1 l Z a0 hw [] a51 q56 kk56 z89_0 z89_1 z89_2 z89_3 z89_4 z89_5 T89.heap n0 Z89 Fd89 Fs89 Ea89 lo51 lo56 lq56_a51 V89) hZ (hw _ (List.mem_of_getElem? (i := 27) rfl)) (hw _ (List.mem_of_getElem? (i := 7) rfl)) (by decide) (by decide)) qa92 qc92 (g := (mkF m 204 #[.val (.long p1), .second, .val (.long p2), .second, .val (.long p3), .second, .val (.long p4), .second, .val (.long p5), .second, .val (.long p6), .second, .val (.ref a1), .val (.ref a51), .val (.long z74_0), .second, .val (.long z77_0), .second, .val (.long z80_0), .second, .val (.long z83_0), .second, .val (.long z86_0), .second, .unset, .unset] [(.ref a51)])) rfl (by rw [hml]; rfl) (Steps.refl _) (argsL := []) (rest := []) (lenOf pd__28_29J rfl) rfl (by show 2 * 0 + _ ≤ _; exact Nat.le_of_eq rfl) (hb hby at_204) (fun _ _ => ⟨rfl, rfl, (by decide : 3 + 0 ≤ _), (by decide : 24 + 0 ≤ _)⟩)
  dsimp only [Pt.U, Pt.locs, Pt.cells, Pt.slots] at X92 ul92 uy92 uz92 st92 hQ92
  subst ul92 uy92 uz92
  obtain ⟨rfl, Nq92, K92, Ea92, Fd92, Fs92, z92_0, z92_1, z92_2, z92_3, z92_4, z92_5, hz92, V92⟩ := hQ92
  have E93 := E90.keep K92
  have V94 := V91.keep K92 (ninS (Nat.ne_of_lt lt51_a1) (ninS (Nat.ne_of_lt lq56_a1) nin0))
  have Z92 : n0 ≤ T92.heap.size := Nat.le_trans Z89 K92.1
  have N92 := Fr.app N89 Nq92
  obtain ⟨lc92, X92, N92⟩ := own_lc X92 N92
  refine own_go (b := T92.setTop (mkF m 209 #[.val (.long p1), .second, .val (.long p2), .second, .val (.long p3), .second, .val (.long p4), .second, .val (.long p5), .second, .val (.long p6), .second, .val (.ref a1), .val (.ref a51), .val (.long z74_0), .second, .val (.long z77_0), .second, .val (.long z80_0), .second, .val (.long z83_0), .second, .val (.long z86_0), .second, .val (.long z89_0), .second] [])) (fun t k => ?_) ?_
  · show Steps p.tables e below (s₁.setTop (mkF m 0 #[.val (.long p1), .second, .val (.long p2), .second, .val (.long p3), .second, .val (.long p4), .second, .val (.long p5), .second, .val (.long p6), .second, .unset, .unset, .unset, .unset, .unset, .unset, .unset, .unset, .unset, .unset, .unset, .unset, .unset, .unset] [])) _
    refine XS.bipush X0.here hx rfl (hb hby at_0) ?_
    show Steps p.tables e below (s₁.setTop (mkF m 2 #[.val (.long p1), .second, .val (.long p2), .second, .val (.long p3), .second, .val (.long p4), .second, .val (.long p5), .second, .val (.long p6), .second, .unset, .unset, .unset, .unset, .unset, .unset, .unset, .unset, .unset, .unset, .unset, .unset, .unset, .unset] [(.int (6 : Int32))])) _
    refine st1 _ ?_
    show Steps p.tables e below (T1.setTop (mkF m 4 #[.val (.long p1), .second, .val (.long p2), .second, .val (.long p3), .second, .val (.long p4), .second, .val (.long p5), .second, .val (.long p6), .second, .unset, .unset, .unset, .unset, .unset, .unset, .unset, .unset, .unset, .unset, .unset, .unset, .unset, .unset] [(.ref a1)])) _
    refine XS.dup X1.here hx rfl (hb hby at_4) rfl rfl ?_
    show Steps p.tables e below (T1.setTop (mkF m 5 #[.val (.long p1), .second, .val (.long p2), .second, .val (.long p3), .second, .val (.long p4), .second, .val (.long p5), .second, .val (.long p6), .second, .unset, .unset, .unset, .unset, .unset, .unset, .unset, .unset, .unset, .unset, .unset, .unset, .unset, .unset] [(.ref a1), (.ref a1)])) _
    refine XS.iconst X1.here hx rfl (hb hby at_5) ?_
    show Steps p.tables e below (T1.setTop (mkF m 6 #[.val (.long p1), .second, .val (.long p2), .second, .val (.long p3), .second, .val (.long p4), .second, .val (.long p5), .second, .val (.long p6), .second, .unset, .unset, .unset, .unset, .unset, .unset, .unset, .unset, .unset, .unset, .unset, .unset, .unset, .unset] [(.int (0 : Int32)), (.ref a1), (.ref a1)])) _
    refine XS.lloadN X1.here hx rfl (hb hby at_6) rfl ?_
    show Steps p.tables e below (T1.setTop (mkF m 7 #[.val (.long p1), .second, .val (.long p2), .second, .val (.long p3), .second, .val (.long p4), .second, .val (.long p5), .second, .val (.long p6), .second, .unset, .unset, .unset, .unset, .unset, .unset, .unset, .unset, .unset, .unset, .unset, .unset, .unset, .unset] [(.long p1), (.int (0 : Int32)), (.ref a1), (.ref a1)])) _
    refine st4 _ ?_
    show Steps p.tables e below (T4.setTop (mkF m 8 #[.val (.long p1), .second, .val (.long p2), .second, .val (.long p3), .second, .val (.long p4), .second, .val (.long p5), .second, .val (.long p6), .second, .unset, .unset, .unset, .unset, .unset, .unset, .unset, .unset, .unset, .unset, .unset, .unset, .unset, .unset] [(.ref a1)])) _
    refine XS.dup X4.here hx rfl (hb hby at_8) rfl rfl ?_
    show Steps p.tables e below (T4.setTop (mkF m 9 #[.val (.long p1), .second, .val (.long p2), .second, .val (.long p3), .second, .val (.long p4), .second, .val (.long p5), .second, .val (.long p6), .second, .unset, .unset, .unset, .unset, .unset, .unset, .unset, .unset, .unset, .unset, .unset, .unset, .unset, .unset] [(.ref a1), (.ref a1)])) _
    refine XS.iconst X4.here hx rfl (hb hby at_9) ?_
    show Steps p.tables e below (T4.setTop (mkF m 10 #[.val (.long p1), .second, .val (.long p2), .second, .val (.long p3), .second, .val (.long p4), .second, .val (.long p5), .second, .val (.long p6), .second, .unset, .unset, .unset, .unset, .unset, .unset, .unset, .unset, .unset, .unset, .unset, .unset, .unset, .unset] [(.int (1 : Int32)), (.ref a1), (.ref a1)])) _
    refine XS.lloadN X4.here hx rfl (hb hby at_10) rfl ?_
    show Steps p.tables e below (T4.setTop (mkF m 11 #[.val (.long p1), .second, .val (.long p2), .second, .val (.long p3), .second, .val (.long p4), .second, .val (.long p5), .second, .val (.long p6), .second, .unset, .unset, .unset, .unset, .unset, .unset, .unset, .unset, .unset, .unset, .unset, .unset, .unset, .unset] [(.long p2), (.int (1 : Int32)), (.ref a1), (.ref a1)])) _
    refine st8 _ ?_
    show Steps p.tables e below (T8.setTop (mkF m 12 #[.val (.long p1), .second, .val (.long p2), .second, .val (.long p3), .second, .val (.long p4), .second, .val (.long p5), .second, .val (.long p6), .second, .unset, .unset, .unset, .unset, .unset, .unset, .unset, .unset, .unset, .unset, .unset, .unset, .unset, .unset] [(.ref a1)])) _
    refine XS.dup X8.here hx rfl (hb hby at_12) rfl rfl ?_
    show Steps p.tables e below (T8.setTop (mkF m 13 #[.val (.long p1), .second, .val (.long p2), .second, .val (.long p3), .second, .val (.long p4), .second, .val (.long p5), .second, .val (.long p6), .second, .unset, .unset, .unset, .unset, .unset, .unset, .unset, .unset, .unset, .unset, .unset, .unset, .unset, .unset] [(.ref a1), (.ref a1)])) _
    refine XS.iconst X8.here hx rfl (hb hby at_13) ?_
    show Steps p.tables e below (T8.setTop (mkF m 14 #[.val (.long p1), .second, .val (.long p2), .second, .val (.long p3), .second, .val (.long p4), .second, .val (.long p5), .second, .val (.long p6), .second, .unset, .unset, .unset, .unset, .unset, .unset, .unset, .unset, .unset, .unset, .unset, .unset, .unset, .unset] [(.int (2 : Int32)), (.ref a1), (.ref a1)])) _
    refine XS.lload X8.here hx rfl (hb hby at_14) rfl ?_
    show Steps p.tables e below (T8.setTop (mkF m 16 #[.val (.long p1), .second, .val (.long p2), .second, .val (.long p3), .second, .val (.long p4), .second, .val (.long p5), .second, .val (.long p6), .second, .unset, .unset, .unset, .unset, .unset, .unset, .unset, .unset, .unset, .unset, .unset, .unset, .unset, .unset] [(.long p3), (.int (2 : Int32)), (.ref a1), (.ref a1)])) _
    refine st12 _ ?_
    show Steps p.tables e below (T12.setTop (mkF m 17 #[.val (.long p1), .second, .val (.long p2), .second, .val (.long p3), .second, .val (.long p4), .second, .val (.long p5), .second, .val (.long p6), .second, .unset, .unset, .unset, .unset, .unset, .unset, .unset, .unset, .unset, .unset, .unset, .unset, .unset, .unset] [(.ref a1)])) _
    refine XS.dup X12.here hx rfl (hb hby at_17) rfl rfl ?_
    show Steps p.tables e below (T12.setTop (mkF m 18 #[.val (.long p1), .second, .val (.long p2), .second, .val (.long p3), .second, .val (.long p4), .second, .val (.long p5), .second, .val (.long p6), .second, .unset, .unset, .unset, .unset, .unset, .unset, .unset, .unset, .unset, .unset, .unset, .unset, .unset, .unset] [(.ref a1), (.ref a1)])) _
    refine XS.iconst X12.here hx rfl (hb hby at_18) ?_
    show Steps p.tables e below (T12.setTop (mkF m 19 #[.val (.long p1), .second, .val (.long p2), .second, .val (.long p3), .second, .val (.long p4), .second, .val (.long p5), .second, .val (.long p6), .second, .unset, .unset, .unset, .unset, .unset, .unset, .unset, .unset, .unset, .unset, .unset, .unset, .unset, .unset] [(.int (3 : Int32)), (.ref a1), (.ref a1)])) _
    refine XS.lload X12.here hx rfl (hb hby at_19) rfl ?_
    show Steps p.tables e below (T12.setTop (mkF m 21 #[.val (.long p1), .second, .val (.long p2), .second, .val (.long p3), .second, .val (.long p4), .second, .val (.long p5), .second, .val (.long p6), .second, .unset, .unset, .unset, .unset, .unset, .unset, .unset, .unset, .unset, .unset, .unset, .unset, .unset, .unset] [(.long p4), (.int (3 : Int32)), (.ref a1), (.ref a1)])) _
    refine st16 _ ?_
    show Steps p.tables e below (T16.setTop (mkF m 22 #[.val (.long p1), .second, .val (.long p2), .second, .val (.long p3), .second, .val (.long p4), .second, .val (.long p5), .second, .val (.long p6), .second, .unset, .unset, .unset, .unset, .unset, .unset, .unset, .unset, .unset, .unset, .unset, .unset, .unset, .unset] [(.ref a1)])) _
    refine XS.dup X16.here hx rfl (hb hby at_22) rfl rfl ?_
    show Steps p.tables e below (T16.setTop (mkF m 23 #[.val (.long p1), .second, .val (.long p2), .second, .val (.long p3), .second, .val (.long p4), .second, .val (.long p5), .second, .val (.long p6), .second, .unset, .unset, .unset, .unset, .unset, .unset, .unset, .unset, .unset, .unset, .unset, .unset, .unset, .unset] [(.ref a1), (.ref a1)])) _
    refine XS.iconst X16.here hx rfl (hb hby at_23) ?_
    show Steps p.tables e below (T16.setTop (mkF m 24 #[.val (.long p1), .second, .val (.long p2), .second, .val (.long p3), .second, .val (.long p4), .second, .val (.long p5), .second, .val (.long p6), .second, .unset, .unset, .unset, .unset, .unset, .unset, .unset, .unset, .unset, .unset, .unset, .unset, .unset, .unset] [(.int (4 : Int32)), (.ref a1), (.ref a1)])) _
    refine XS.lload X16.here hx rfl (hb hby at_24) rfl ?_
    show Steps p.tables e below (T16.setTop (mkF m 26 #[.val (.long p1), .second, .val (.long p2), .second, .val (.long p3), .second, .val (.long p4), .second, .val (.long p5), .second, .val (.long p6), .second, .unset, .unset, .unset, .unset, .unset, .unset, .unset, .unset, .unset, .unset, .unset, .unset, .unset, .unset] [(.long p5), (.int (4 : Int32)), (.ref a1), (.ref a1)])) _
    refine st20 _ ?_
    show Steps p.tables e below (T20.setTop (mkF m 27 #[.val (.long p1), .second, .val (.long p2), .second, .val (.long p3), .second, .val (.long p4), .second, .val (.long p5), .second, .val (.long p6), .second, .unset, .unset, .unset, .unset, .unset, .unset, .unset, .unset, .unset, .unset, .unset, .unset, .unset, .unset] [(.ref a1)])) _
    refine XS.dup X20.here hx rfl (hb hby at_27) rfl rfl ?_
    show Steps p.tables e below (T20.setTop (mkF m 28 #[.val (.long p1), .second, .val (.long p2), .second, .val (.long p3), .second, .val (.long p4), .second, .val (.long p5), .second, .val (.long p6), .second, .unset, .unset, .unset, .unset, .unset, .unset, .unset, .unset, .unset, .unset, .unset, .unset, .unset, .unset] [(.ref a1), (.ref a1)])) _
    refine XS.iconst X20.here hx rfl (hb hby at_28) ?_
    show Steps p.tables e below (T20.setTop (mkF m 29 #[.val (.long p1), .second, .val (.long p2), .second, .val (.long p3), .second, .val (.long p4), .second, .val (.long p5), .second, .val (.long p6), .second, .unset, .unset, .unset, .unset, .unset, .unset, .unset, .unset, .unset, .unset, .unset, .unset, .unset, .unset] [(.int (5 : Int32)), (.ref a1), (.ref a1)])) _
    refine XS.lload X20.here hx rfl (hb hby at_29) rfl ?_
    show Steps p.tables e below (T20.setTop (mkF m 31 #[.val (.long p1), .second, .val (.long p2), .second, .val (.long p3), .second, .val (.long p4), .second, .val (.long p5), .second, .val (.long p6), .second, .unset, .unset, .unset, .unset, .unset, .unset, .unset, .unset, .unset, .unset, .unset, .unset, .unset, .unset] [(.long p6), (.int (5 : Int32)), (.ref a1), (.ref a1)])) _
    refine st24 _ ?_
    show Steps p.tables e below (T24.setTop (mkF m 32 #[.val (.long p1), .second, .val (.long p2), .second, .val (.long p3), .second, .val (.long p4), .second, .val (.long p5), .second, .val (.long p6), .second, .unset, .unset, .unset, .unset, .unset, .unset, .unset, .unset, .unset, .unset, .unset, .unset, .unset, .unset] [(.ref a1)])) _
    refine XS.astore X24.here hx rfl (hb hby at_32) rfl rfl (l' := #[.val (.long p1), .second, .val (.long p2), .second, .val (.long p3), .second, .val (.long p4), .second, .val (.long p5), .second, .val (.long p6), .second, .val (.ref a1), .unset, .unset, .unset, .unset, .unset, .unset, .unset, .unset, .unset, .unset, .unset, .unset, .unset]) rfl ?_
    show Steps p.tables e below (T24.setTop (mkF m 34 #[.val (.long p1), .second, .val (.long p2), .second, .val (.long p3), .second, .val (.long p4), .second, .val (.long p5), .second, .val (.long p6), .second, .val (.ref a1), .unset, .unset, .unset, .unset, .unset, .unset, .unset, .unset, .unset, .unset, .unset, .unset, .unset] [])) _
    refine XS.aload X24.here hx rfl (hb hby at_34) rfl rfl ?_
    show Steps p.tables e below (T24.setTop (mkF m 36 #[.val (.long p1), .second, .val (.long p2), .second, .val (.long p3), .second, .val (.long p4), .second, .val (.long p5), .second, .val (.long p6), .second, .val (.ref a1), .unset, .unset, .unset, .unset, .unset, .unset, .unset, .unset, .unset, .unset, .unset, .unset, .unset] [(.ref a1)])) _
    refine XS.iconst X24.here hx rfl (hb hby at_36) ?_
    show Steps p.tables e below (T24.setTop (mkF m 37 #[.val (.long p1), .second, .val (.long p2), .second, .val (.long p3), .second, .val (.long p4), .second, .val (.long p5), .second, .val (.long p6), .second, .val (.ref a1), .unset, .unset, .unset, .unset, .unset, .unset, .unset, .unset, .unset, .unset, .unset, .unset, .unset] [(.int (1 : Int32)), (.ref a1)])) _
    refine XS.iconst X24.here hx rfl (hb hby at_37) ?_
    show Steps p.tables e below (T24.setTop (mkF m 38 #[.val (.long p1), .second, .val (.long p2), .second, .val (.long p3), .second, .val (.long p4), .second, .val (.long p5), .second, .val (.long p6), .second, .val (.ref a1), .unset, .unset, .unset, .unset, .unset, .unset, .unset, .unset, .unset, .unset, .unset, .unset, .unset] [(.int (2 : Int32)), (.int (1 : Int32)), (.ref a1)])) _
    refine st27 _ ?_
    show Steps p.tables e below (T27.setTop (mkF m 41 #[.val (.long p1), .second, .val (.long p2), .second, .val (.long p3), .second, .val (.long p4), .second, .val (.long p5), .second, .val (.long p6), .second, .val (.ref a1), .unset, .unset, .unset, .unset, .unset, .unset, .unset, .unset, .unset, .unset, .unset, .unset, .unset] [])) _
    refine XS.aload X27.here hx rfl (hb hby at_41) rfl rfl ?_
    show Steps p.tables e below (T27.setTop (mkF m 43 #[.val (.long p1), .second, .val (.long p2), .second, .val (.long p3), .second, .val (.long p4), .second, .val (.long p5), .second, .val (.long p6), .second, .val (.ref a1), .unset, .unset, .unset, .unset, .unset, .unset, .unset, .unset, .unset, .unset, .unset, .unset, .unset] [(.ref a1)])) _
    refine XS.iconst X27.here hx rfl (hb hby at_43) ?_
    show Steps p.tables e below (T27.setTop (mkF m 44 #[.val (.long p1), .second, .val (.long p2), .second, .val (.long p3), .second, .val (.long p4), .second, .val (.long p5), .second, .val (.long p6), .second, .val (.ref a1), .unset, .unset, .unset, .unset, .unset, .unset, .unset, .unset, .unset, .unset, .unset, .unset, .unset] [(.int (0 : Int32)), (.ref a1)])) _
    refine XS.iconst X27.here hx rfl (hb hby at_44) ?_
    show Steps p.tables e below (T27.setTop (mkF m 45 #[.val (.long p1), .second, .val (.long p2), .second, .val (.long p3), .second, .val (.long p4), .second, .val (.long p5), .second, .val (.long p6), .second, .val (.ref a1), .unset, .unset, .unset, .unset, .unset, .unset, .unset, .unset, .unset, .unset, .unset, .unset, .unset] [(.int (2 : Int32)), (.int (0 : Int32)), (.ref a1)])) _
    refine st29 _ ?_
    show Steps p.tables e below (T29.setTop (mkF m 48 #[.val (.long p1), .second, .val (.long p2), .second, .val (.long p3), .second, .val (.long p4), .second, .val (.long p5), .second, .val (.long p6), .second, .val (.ref a1), .unset, .unset, .unset, .unset, .unset, .unset, .unset, .unset, .unset, .unset, .unset, .unset, .unset] [])) _
    refine XS.aload X29.here hx rfl (hb hby at_48) rfl rfl ?_
    show Steps p.tables e below (T29.setTop (mkF m 50 #[.val (.long p1), .second, .val (.long p2), .second, .val (.long p3), .second, .val (.long p4), .second, .val (.long p5), .second, .val (.long p6), .second, .val (.ref a1), .unset, .unset, .unset, .unset, .unset, .unset, .unset, .unset, .unset, .unset, .unset, .unset, .unset] [(.ref a1)])) _
    refine XS.iconst X29.here hx rfl (hb hby at_50) ?_
    show Steps p.tables e below (T29.setTop (mkF m 51 #[.val (.long p1), .second, .val (.long p2), .second, .val (.long p3), .second, .val (.long p4), .second, .val (.long p5), .second, .val (.long p6), .second, .val (.ref a1), .unset, .unset, .unset, .unset, .unset, .unset, .unset, .unset, .unset, .unset, .unset, .unset, .unset] [(.int (0 : Int32)), (.ref a1)])) _
    refine XS.iconst X29.here hx rfl (hb hby at_51) ?_
    show Steps p.tables e below (T29.setTop (mkF m 52 #[.val (.long p1), .second, .val (.long p2), .second, .val (.long p3), .second, .val (.long p4), .second, .val (.long p5), .second, .val (.long p6), .second, .val (.ref a1), .unset, .unset, .unset, .unset, .unset, .unset, .unset, .unset, .unset, .unset, .unset, .unset, .unset] [(.int (1 : Int32)), (.int (0 : Int32)), (.ref a1)])) _
    refine st31 _ ?_
    show Steps p.tables e below (T31.setTop (mkF m 55 #[.val (.long p1), .second, .val (.long p2), .second, .val (.long p3), .second, .val (.long p4), .second, .val (.long p5), .second, .val (.long p6), .second, .val (.ref a1), .unset, .unset, .unset, .unset, .unset, .unset, .unset, .unset, .unset, .unset, .unset, .unset, .unset] [])) _
    refine XS.aload X31.here hx rfl (hb hby at_55) rfl rfl ?_
    show Steps p.tables e below (T31.setTop (mkF m 57 #[.val (.long p1), .second, .val (.long p2), .second, .val (.long p3), .second, .val (.long p4), .second, .val (.long p5), .second, .val (.long p6), .second, .val (.ref a1), .unset, .unset, .unset, .unset, .unset, .unset, .unset, .unset, .unset, .unset, .unset, .unset, .unset] [(.ref a1)])) _
    refine XS.iconst X31.here hx rfl (hb hby at_57) ?_
    show Steps p.tables e below (T31.setTop (mkF m 58 #[.val (.long p1), .second, .val (.long p2), .second, .val (.long p3), .second, .val (.long p4), .second, .val (.long p5), .second, .val (.long p6), .second, .val (.ref a1), .unset, .unset, .unset, .unset, .unset, .unset, .unset, .unset, .unset, .unset, .unset, .unset, .unset] [(.int (4 : Int32)), (.ref a1)])) _
    refine XS.iconst X31.here hx rfl (hb hby at_58) ?_
    show Steps p.tables e below (T31.setTop (mkF m 59 #[.val (.long p1), .second, .val (.long p2), .second, .val (.long p3), .second, .val (.long p4), .second, .val (.long p5), .second, .val (.long p6), .second, .val (.ref a1), .unset, .unset, .unset, .unset, .unset, .unset, .unset, .unset, .unset, .unset, .unset, .unset, .unset] [(.int (5 : Int32)), (.int (4 : Int32)), (.ref a1)])) _
    refine st33 _ ?_
    show Steps p.tables e below (T33.setTop (mkF m 62 #[.val (.long p1), .second, .val (.long p2), .second, .val (.long p3), .second, .val (.long p4), .second, .val (.long p5), .second, .val (.long p6), .second, .val (.ref a1), .unset, .unset, .unset, .unset, .unset, .unset, .unset, .unset, .unset, .unset, .unset, .unset, .unset] [])) _
    refine XS.aload X33.here hx rfl (hb hby at_62) rfl rfl ?_
    show Steps p.tables e below (T33.setTop (mkF m 64 #[.val (.long p1), .second, .val (.long p2), .second, .val (.long p3), .second, .val (.long p4), .second, .val (.long p5), .second, .val (.long p6), .second, .val (.ref a1), .unset, .unset, .unset, .unset, .unset, .unset, .unset, .unset, .unset, .unset, .unset, .unset, .unset] [(.ref a1)])) _
    refine XS.iconst X33.here hx rfl (hb hby at_64) ?_
    show Steps p.tables e below (T33.setTop (mkF m 65 #[.val (.long p1), .second, .val (.long p2), .second, .val (.long p3), .second, .val (.long p4), .second, .val (.long p5), .second, .val (.long p6), .second, .val (.ref a1), .unset, .unset, .unset, .unset, .unset, .unset, .unset, .unset, .unset, .unset, .unset, .unset, .unset] [(.int (3 : Int32)), (.ref a1)])) _
    refine XS.iconst X33.here hx rfl (hb hby at_65) ?_
    show Steps p.tables e below (T33.setTop (mkF m 66 #[.val (.long p1), .second, .val (.long p2), .second, .val (.long p3), .second, .val (.long p4), .second, .val (.long p5), .second, .val (.long p6), .second, .val (.ref a1), .unset, .unset, .unset, .unset, .unset, .unset, .unset, .unset, .unset, .unset, .unset, .unset, .unset] [(.int (5 : Int32)), (.int (3 : Int32)), (.ref a1)])) _
    refine st35 _ ?_
    show Steps p.tables e below (T35.setTop (mkF m 69 #[.val (.long p1), .second, .val (.long p2), .second, .val (.long p3), .second, .val (.long p4), .second, .val (.long p5), .second, .val (.long p6), .second, .val (.ref a1), .unset, .unset, .unset, .unset, .unset, .unset, .unset, .unset, .unset, .unset, .unset, .unset, .unset] [])) _
    refine XS.aload X35.here hx rfl (hb hby at_69) rfl rfl ?_
    show Steps p.tables e below (T35.setTop (mkF m 71 #[.val (.long p1), .second, .val (.long p2), .second, .val (.long p3), .second, .val (.long p4), .second, .val (.long p5), .second, .val (.long p6), .second, .val (.ref a1), .unset, .unset, .unset, .unset, .unset, .unset, .unset, .unset, .unset, .unset, .unset, .unset, .unset] [(.ref a1)])) _
    refine XS.iconst X35.here hx rfl (hb hby at_71) ?_
    show Steps p.tables e below (T35.setTop (mkF m 72 #[.val (.long p1), .second, .val (.long p2), .second, .val (.long p3), .second, .val (.long p4), .second, .val (.long p5), .second, .val (.long p6), .second, .val (.ref a1), .unset, .unset, .unset, .unset, .unset, .unset, .unset, .unset, .unset, .unset, .unset, .unset, .unset] [(.int (3 : Int32)), (.ref a1)])) _
    refine XS.iconst X35.here hx rfl (hb hby at_72) ?_
    show Steps p.tables e below (T35.setTop (mkF m 73 #[.val (.long p1), .second, .val (.long p2), .second, .val (.long p3), .second, .val (.long p4), .second, .val (.long p5), .second, .val (.long p6), .second, .val (.ref a1), .unset, .unset, .unset, .unset, .unset, .unset, .unset, .unset, .unset, .unset, .unset, .unset, .unset] [(.int (4 : Int32)), (.int (3 : Int32)), (.ref a1)])) _
    refine st37 _ ?_
    show Steps p.tables e below (T37.setTop (mkF m 76 #[.val (.long p1), .second, .val (.long p2), .second, .val (.long p3), .second, .val (.long p4), .second, .val (.long p5), .second, .val (.long p6), .second, .val (.ref a1), .unset, .unset, .unset, .unset, .unset, .unset, .unset, .unset, .unset, .unset, .unset, .unset, .unset] [])) _
    refine XS.aload X37.here hx rfl (hb hby at_76) rfl rfl ?_
    show Steps p.tables e below (T37.setTop (mkF m 78 #[.val (.long p1), .second, .val (.long p2), .second, .val (.long p3), .second, .val (.long p4), .second, .val (.long p5), .second, .val (.long p6), .second, .val (.ref a1), .unset, .unset, .unset, .unset, .unset, .unset, .unset, .unset, .unset, .unset, .unset, .unset, .unset] [(.ref a1)])) _
    refine XS.iconst X37.here hx rfl (hb hby at_78) ?_
    show Steps p.tables e below (T37.setTop (mkF m 79 #[.val (.long p1), .second, .val (.long p2), .second, .val (.long p3), .second, .val (.long p4), .second, .val (.long p5), .second, .val (.long p6), .second, .val (.ref a1), .unset, .unset, .unset, .unset, .unset, .unset, .unset, .unset, .unset, .unset, .unset, .unset, .unset] [(.int (0 : Int32)), (.ref a1)])) _
    refine XS.iconst X37.here hx rfl (hb hby at_79) ?_
    show Steps p.tables e below (T37.setTop (mkF m 80 #[.val (.long p1), .second, .val (.long p2), .second, .val (.long p3), .second, .val (.long p4), .second, .val (.long p5), .second, .val (.long p6), .second, .val (.ref a1), .unset, .unset, .unset, .unset, .unset, .unset, .unset, .unset, .unset, .unset, .unset, .unset, .unset] [(.int (3 : Int32)), (.int (0 : Int32)), (.ref a1)])) _
    refine st39 _ ?_
    show Steps p.tables e below (T39.setTop (mkF m 83 #[.val (.long p1), .second, .val (.long p2), .second, .val (.long p3), .second, .val (.long p4), .second, .val (.long p5), .second, .val (.long p6), .second, .val (.ref a1), .unset, .unset, .unset, .unset, .unset, .unset, .unset, .unset, .unset, .unset, .unset, .unset, .unset] [])) _
    refine XS.aload X39.here hx rfl (hb hby at_83) rfl rfl ?_
    show Steps p.tables e below (T39.setTop (mkF m 85 #[.val (.long p1), .second, .val (.long p2), .second, .val (.long p3), .second, .val (.long p4), .second, .val (.long p5), .second, .val (.long p6), .second, .val (.ref a1), .unset, .unset, .unset, .unset, .unset, .unset, .unset, .unset, .unset, .unset, .unset, .unset, .unset] [(.ref a1)])) _
    refine XS.iconst X39.here hx rfl (hb hby at_85) ?_
    show Steps p.tables e below (T39.setTop (mkF m 86 #[.val (.long p1), .second, .val (.long p2), .second, .val (.long p3), .second, .val (.long p4), .second, .val (.long p5), .second, .val (.long p6), .second, .val (.ref a1), .unset, .unset, .unset, .unset, .unset, .unset, .unset, .unset, .unset, .unset, .unset, .unset, .unset] [(.int (1 : Int32)), (.ref a1)])) _
    refine XS.iconst X39.here hx rfl (hb hby at_86) ?_
    show Steps p.tables e below (T39.setTop (mkF m 87 #[.val (.long p1), .second, .val (.long p2), .second, .val (.long p3), .second, .val (.long p4), .second, .val (.long p5), .second, .val (.long p6), .second, .val (.ref a1), .unset, .unset, .unset, .unset, .unset, .unset, .unset, .unset, .unset, .unset, .unset, .unset, .unset] [(.int (4 : Int32)), (.int (1 : Int32)), (.ref a1)])) _
    refine st41 _ ?_
    show Steps p.tables e below (T41.setTop (mkF m 90 #[.val (.long p1), .second, .val (.long p2), .second, .val (.long p3), .second, .val (.long p4), .second, .val (.long p5), .second, .val (.long p6), .second, .val (.ref a1), .unset, .unset, .unset, .unset, .unset, .unset, .unset, .unset, .unset, .unset, .unset, .unset, .unset] [])) _
    refine XS.aload X41.here hx rfl (hb hby at_90) rfl rfl ?_
    show Steps p.tables e below (T41.setTop (mkF m 92 #[.val (.long p1), .second, .val (.long p2), .second, .val (.long p3), .second, .val (.long p4), .second, .val (.long p5), .second, .val (.long p6), .second, .val (.ref a1), .unset, .unset, .unset, .unset, .unset, .unset, .unset, .unset, .unset, .unset, .unset, .unset, .unset] [(.ref a1)])) _
    refine XS.iconst X41.here hx rfl (hb hby at_92) ?_
    show Steps p.tables e below (T41.setTop (mkF m 93 #[.val (.long p1), .second, .val (.long p2), .second, .val (.long p3), .second, .val (.long p4), .second, .val (.long p5), .second, .val (.long p6), .second, .val (.ref a1), .unset, .unset, .unset, .unset, .unset, .unset, .unset, .unset, .unset, .unset, .unset, .unset, .unset] [(.int (2 : Int32)), (.ref a1)])) _
    refine XS.iconst X41.here hx rfl (hb hby at_93) ?_
    show Steps p.tables e below (T41.setTop (mkF m 94 #[.val (.long p1), .second, .val (.long p2), .second, .val (.long p3), .second, .val (.long p4), .second, .val (.long p5), .second, .val (.long p6), .second, .val (.ref a1), .unset, .unset, .unset, .unset, .unset, .unset, .unset, .unset, .unset, .unset, .unset, .unset, .unset] [(.int (5 : Int32)), (.int (2 : Int32)), (.ref a1)])) _
    refine st43 _ ?_
    show Steps p.tables e below (T43.setTop (mkF m 97 #[.val (.long p1), .second, .val (.long p2), .second, .val (.long p3), .second, .val (.long p4), .second, .val (.long p5), .second, .val (.long p6), .second, .val (.ref a1), .unset, .unset, .unset, .unset, .unset, .unset, .unset, .unset, .unset, .unset, .unset, .unset, .unset] [])) _
    refine XS.aload X43.here hx rfl (hb hby at_97) rfl rfl ?_
    show Steps p.tables e below (T43.setTop (mkF m 99 #[.val (.long p1), .second, .val (.long p2), .second, .val (.long p3), .second, .val (.long p4), .second, .val (.long p5), .second, .val (.long p6), .second, .val (.ref a1), .unset, .unset, .unset, .unset, .unset, .unset, .unset, .unset, .unset, .unset, .unset, .unset, .unset] [(.ref a1)])) _
    refine XS.iconst X43.here hx rfl (hb hby at_99) ?_
    show Steps p.tables e below (T43.setTop (mkF m 100 #[.val (.long p1), .second, .val (.long p2), .second, .val (.long p3), .second, .val (.long p4), .second, .val (.long p5), .second, .val (.long p6), .second, .val (.ref a1), .unset, .unset, .unset, .unset, .unset, .unset, .unset, .unset, .unset, .unset, .unset, .unset, .unset] [(.int (2 : Int32)), (.ref a1)])) _
    refine XS.iconst X43.here hx rfl (hb hby at_100) ?_
    show Steps p.tables e below (T43.setTop (mkF m 101 #[.val (.long p1), .second, .val (.long p2), .second, .val (.long p3), .second, .val (.long p4), .second, .val (.long p5), .second, .val (.long p6), .second, .val (.ref a1), .unset, .unset, .unset, .unset, .unset, .unset, .unset, .unset, .unset, .unset, .unset, .unset, .unset] [(.int (4 : Int32)), (.int (2 : Int32)), (.ref a1)])) _
    refine st45 _ ?_
    show Steps p.tables e below (T45.setTop (mkF m 104 #[.val (.long p1), .second, .val (.long p2), .second, .val (.long p3), .second, .val (.long p4), .second, .val (.long p5), .second, .val (.long p6), .second, .val (.ref a1), .unset, .unset, .unset, .unset, .unset, .unset, .unset, .unset, .unset, .unset, .unset, .unset, .unset] [])) _
    refine XS.aload X45.here hx rfl (hb hby at_104) rfl rfl ?_
    show Steps p.tables e below (T45.setTop (mkF m 106 #[.val (.long p1), .second, .val (.long p2), .second, .val (.long p3), .second, .val (.long p4), .second, .val (.long p5), .second, .val (.long p6), .second, .val (.ref a1), .unset, .unset, .unset, .unset, .unset, .unset, .unset, .unset, .unset, .unset, .unset, .unset, .unset] [(.ref a1)])) _
    refine XS.iconst X45.here hx rfl (hb hby at_106) ?_
    show Steps p.tables e below (T45.setTop (mkF m 107 #[.val (.long p1), .second, .val (.long p2), .second, .val (.long p3), .second, .val (.long p4), .second, .val (.long p5), .second, .val (.long p6), .second, .val (.ref a1), .unset, .unset, .unset, .unset, .unset, .unset, .unset, .unset, .unset, .unset, .unset, .unset, .unset] [(.int (1 : Int32)), (.ref a1)])) _
    refine XS.iconst X45.here hx rfl (hb hby at_107) ?_
    show Steps p.tables e below (T45.setTop (mkF m 108 #[.val (.long p1), .second, .val (.long p2), .second, .val (.long p3), .second, .val (.long p4), .second, .val (.long p5), .second, .val (.long p6), .second, .val (.ref a1), .unset, .unset, .unset, .unset, .unset, .unset, .unset, .unset, .unset, .unset, .unset, .unset, .unset] [(.int (3 : Int32)), (.int (1 : Int32)), (.ref a1)])) _
    refine st47 _ ?_
    show Steps p.tables e below (T47.setTop (mkF m 111 #[.val (.long p1), .second, .val (.long p2), .second, .val (.long p3), .second, .val (.long p4), .second, .val (.long p5), .second, .val (.long p6), .second, .val (.ref a1), .unset, .unset, .unset, .unset, .unset, .unset, .unset, .unset, .unset, .unset, .unset, .unset, .unset] [])) _
    refine XS.aload X47.here hx rfl (hb hby at_111) rfl rfl ?_
    show Steps p.tables e below (T47.setTop (mkF m 113 #[.val (.long p1), .second, .val (.long p2), .second, .val (.long p3), .second, .val (.long p4), .second, .val (.long p5), .second, .val (.long p6), .second, .val (.ref a1), .unset, .unset, .unset, .unset, .unset, .unset, .unset, .unset, .unset, .unset, .unset, .unset, .unset] [(.ref a1)])) _
    refine XS.iconst X47.here hx rfl (hb hby at_113) ?_
    show Steps p.tables e below (T47.setTop (mkF m 114 #[.val (.long p1), .second, .val (.long p2), .second, .val (.long p3), .second, .val (.long p4), .second, .val (.long p5), .second, .val (.long p6), .second, .val (.ref a1), .unset, .unset, .unset, .unset, .unset, .unset, .unset, .unset, .unset, .unset, .unset, .unset, .unset] [(.int (2 : Int32)), (.ref a1)])) _
    refine XS.iconst X47.here hx rfl (hb hby at_114) ?_
    show Steps p.tables e below (T47.setTop (mkF m 115 #[.val (.long p1), .second, .val (.long p2), .second, .val (.long p3), .second, .val (.long p4), .second, .val (.long p5), .second, .val (.long p6), .second, .val (.ref a1), .unset, .unset, .unset, .unset, .unset, .unset, .unset, .unset, .unset, .unset, .unset, .unset, .unset] [(.int (3 : Int32)), (.int (2 : Int32)), (.ref a1)])) _
    refine st49 _ ?_
    show Steps p.tables e below (T49.setTop (mkF m 118 #[.val (.long p1), .second, .val (.long p2), .second, .val (.long p3), .second, .val (.long p4), .second, .val (.long p5), .second, .val (.long p6), .second, .val (.ref a1), .unset, .unset, .unset, .unset, .unset, .unset, .unset, .unset, .unset, .unset, .unset, .unset, .unset] [])) _
    refine st51 _ ?_
    show Steps p.tables e below (T51.setTop (mkF m 121 #[.val (.long p1), .second, .val (.long p2), .second, .val (.long p3), .second, .val (.long p4), .second, .val (.long p5), .second, .val (.long p6), .second, .val (.ref a1), .unset, .unset, .unset, .unset, .unset, .unset, .unset, .unset, .unset, .unset, .unset, .unset, .unset] [(.ref a51)])) _
    refine XS.dup X51.here hx rfl (hb hby at_121) rfl rfl ?_
    show Steps p.tables e below (T51.setTop (mkF m 122 #[.val (.long p1), .second, .val (.long p2), .second, .val (.long p3), .second, .val (.long p4), .second, .val (.long p5), .second, .val (.long p6), .second, .val (.ref a1), .unset, .unset, .unset, .unset, .unset, .unset, .unset, .unset, .unset, .unset, .unset, .unset, .unset] [(.ref a51), (.ref a51)])) _
    refine st56.trans ?_
    show Steps p.tables e below (T56.setTop (mkF m 125 #[.val (.long p1), .second, .val (.long p2), .second, .val (.long p3), .second, .val (.long p4), .second, .val (.long p5), .second, .val (.long p6), .second, .val (.ref a1), .unset, .unset, .unset, .unset, .unset, .unset, .unset, .unset, .unset, .unset, .unset, .unset, .unset] [(.ref a51)])) _
    refine XS.astore X56.here hx rfl (hb hby at_125) rfl rfl (l' := #[.val (.long p1), .second, .val (.long p2), .second, .val (.long p3), .second, .val (.long p4), .second, .val (.long p5), .second, .val (.long p6), .second, .val (.ref a1), .val (.ref a51), .unset, .unset, .unset, .unset, .unset, .unset, .unset, .unset, .unset, .unset, .unset, .unset]) rfl ?_
    show Steps p.tables e below (T56.setTop (mkF m 127 #[.val (.long p1), .second, .val (.long p2), .second, .val (.long p3), .second, .val (.long p4), .second, .val (.long p5), .second, .val (.long p6), .second, .val (.ref a1), .val (.ref a51), .unset, .unset, .unset, .unset, .unset, .unset, .unset, .unset, .unset, .unset, .unset, .unset] [])) _
    refine XS.aload X56.here hx rfl (hb hby at_127) rfl rfl ?_
    show Steps p.tables e below (T56.setTop (mkF m 129 #[.val (.long p1), .second, .val (.long p2), .second, .val (.long p3), .second, .val (.long p4), .second, .val (.long p5), .second, .val (.long p6), .second, .val (.ref a1), .val (.ref a51), .unset, .unset, .unset, .unset, .unset, .unset, .unset, .unset, .unset, .unset, .unset, .unset] [(.ref a51)])) _
    refine XS.lloadN X56.here hx rfl (hb hby at_129) rfl ?_
    show Steps p.tables e below (T56.setTop (mkF m 130 #[.val (.long p1), .second, .val (.long p2), .second, .val (.long p3), .second, .val (.long p4), .second, .val (.long p5), .second, .val (.long p6), .second, .val (.ref a1), .val (.ref a51), .unset, .unset, .unset, .unset, .unset, .unset, .unset, .unset, .unset, .unset, .unset, .unset] [(.long p1), (.ref a51)])) _
    refine st59.trans ?_
    show Steps p.tables e below (T59.setTop (mkF m 133 #[.val (.long p1), .second, .val (.long p2), .second, .val (.long p3), .second, .val (.long p4), .second, .val (.long p5), .second, .val (.long p6), .second, .val (.ref a1), .val (.ref a51), .unset, .unset, .unset, .unset, .unset, .unset, .unset, .unset, .unset, .unset, .unset, .unset] [])) _
    refine XS.aload X59.here hx rfl (hb hby at_133) rfl rfl ?_
    show Steps p.tables e below (T59.setTop (mkF m 135 #[.val (.long p1), .second, .val (.long p2), .second, .val (.long p3), .second, .val (.long p4), .second, .val (.long p5), .second, .val (.long p6), .second, .val (.ref a1), .val (.ref a51), .unset, .unset, .unset, .unset, .unset, .unset, .unset, .unset, .unset, .unset, .unset, .unset] [(.ref a51)])) _
    refine XS.lloadN X59.here hx rfl (hb hby at_135) rfl ?_
    show Steps p.tables e below (T59.setTop (mkF m 136 #[.val (.long p1), .second, .val (.long p2), .second, .val (.long p3), .second, .val (.long p4), .second, .val (.long p5), .second, .val (.long p6), .second, .val (.ref a1), .val (.ref a51), .unset, .unset, .unset, .unset, .unset, .unset, .unset, .unset, .unset, .unset, .unset, .unset] [(.long p2), (.ref a51)])) _
    refine st62.trans ?_
    show Steps p.tables e below (T62.setTop (mkF m 139 #[.val (.long p1), .second, .val (.long p2), .second, .val (.long p3), .second, .val (.long p4), .second, .val (.long p5), .second, .val (.long p6), .second, .val (.ref a1), .val (.ref a51), .unset, .unset, .unset, .unset, .unset, .unset, .unset, .unset, .unset, .unset, .unset, .unset] [])) _
    refine XS.aload X62.here hx rfl (hb hby at_139) rfl rfl ?_
    show Steps p.tables e below (T62.setTop (mkF m 141 #[.val (.long p1), .second, .val (.long p2), .second, .val (.long p3), .second, .val (.long p4), .second, .val (.long p5), .second, .val (.long p6), .second, .val (.ref a1), .val (.ref a51), .unset, .unset, .unset, .unset, .unset, .unset, .unset, .unset, .unset, .unset, .unset, .unset] [(.ref a51)])) _
    refine XS.lload X62.here hx rfl (hb hby at_141) rfl ?_
    show Steps p.tables e below (T62.setTop (mkF m 143 #[.val (.long p1), .second, .val (.long p2), .second, .val (.long p3), .second, .val (.long p4), .second, .val (.long p5), .second, .val (.long p6), .second, .val (.ref a1), .val (.ref a51), .unset, .unset, .unset, .unset, .unset, .unset, .unset, .unset, .unset, .unset, .unset, .unset] [(.long p3), (.ref a51)])) _
    refine st65.trans ?_
    show Steps p.tables e below (T65.setTop (mkF m 146 #[.val (.long p1), .second, .val (.long p2), .second, .val (.long p3), .second, .val (.long p4), .second, .val (.long p5), .second, .val (.long p6), .second, .val (.ref a1), .val (.ref a51), .unset, .unset, .unset, .unset, .unset, .unset, .unset, .unset, .unset, .unset, .unset, .unset] [])) _
    refine XS.aload X65.here hx rfl (hb hby at_146) rfl rfl ?_
    show Steps p.tables e below (T65.setTop (mkF m 148 #[.val (.long p1), .second, .val (.long p2), .second, .val (.long p3), .second, .val (.long p4), .second, .val (.long p5), .second, .val (.long p6), .second, .val (.ref a1), .val (.ref a51), .unset, .unset, .unset, .unset, .unset, .unset, .unset, .unset, .unset, .unset, .unset, .unset] [(.ref a51)])) _
    refine XS.lload X65.here hx rfl (hb hby at_148) rfl ?_
    show Steps p.tables e below (T65.setTop (mkF m 150 #[.val (.long p1), .second, .val (.long p2), .second, .val (.long p3), .second, .val (.long p4), .second, .val (.long p5), .second, .val (.long p6), .second, .val (.ref a1), .val (.ref a51), .unset, .unset, .unset, .unset, .unset, .unset, .unset, .unset, .unset, .unset, .unset, .unset] [(.long p4), (.ref a51)])) _
    refine st68.trans ?_
    show Steps p.tables e below (T68.setTop (mkF m 153 #[.val (.long p1), .second, .val (.long p2), .second, .val (.long p3), .second, .val (.long p4), .second, .val (.long p5), .second, .val (.long p6), .second, .val (.ref a1), .val (.ref a51), .unset, .unset, .unset, .unset, .unset, .unset, .unset, .unset, .unset, .unset, .unset, .unset] [])) _
    refine XS.aload X68.here hx rfl (hb hby at_153) rfl rfl ?_
    show Steps p.tables e below (T68.setTop (mkF m 155 #[.val (.long p1), .second, .val (.long p2), .second, .val (.long p3), .second, .val (.long p4), .second, .val (.long p5), .second, .val (.long p6), .second, .val (.ref a1), .val (.ref a51), .unset, .unset, .unset, .unset, .unset, .unset, .unset, .unset, .unset, .unset, .unset, .unset] [(.ref a51)])) _
    refine XS.lload X68.here hx rfl (hb hby at_155) rfl ?_
    show Steps p.tables e below (T68.setTop (mkF m 157 #[.val (.long p1), .second, .val (.long p2), .second, .val (.long p3), .second, .val (.long p4), .second, .val (.long p5), .second, .val (.long p6), .second, .val (.ref a1), .val (.ref a51), .unset, .unset, .unset, .unset, .unset, .unset, .unset, .unset, .unset, .unset, .unset, .unset] [(.long p5), (.ref a51)])) _
    refine st71.trans ?_
    show Steps p.tables e below (T71.setTop (mkF m 160 #[.val (.long p1), .second, .val (.long p2), .second, .val (.long p3), .second, .val (.long p4), .second, .val (.long p5), .second, .val (.long p6), .second, .val (.ref a1), .val (.ref a51), .unset, .unset, .unset, .unset, .unset, .unset, .unset, .unset, .unset, .unset, .unset, .unset] [])) _
    refine XS.aload X71.here hx rfl (hb hby at_160) rfl rfl ?_
    show Steps p.tables e below (T71.setTop (mkF m 162 #[.val (.long p1), .second, .val (.long p2), .second, .val (.long p3), .second, .val (.long p4), .second, .val (.long p5), .second, .val (.long p6), .second, .val (.ref a1), .val (.ref a51), .unset, .unset, .unset, .unset, .unset, .unset, .unset, .unset, .unset, .unset, .unset, .unset] [(.ref a51)])) _
    refine XS.lload X71.here hx rfl (hb hby at_162) rfl ?_
    show Steps p.tables e below (T71.setTop (mkF m 164 #[.val (.long p1), .second, .val (.long p2), .second, .val (.long p3), .second, .val (.long p4), .second, .val (.long p5), .second, .val (.long p6), .second, .val (.ref a1), .val (.ref a51), .unset, .unset, .unset, .unset, .unset, .unset, .unset, .unset, .unset, .unset, .unset, .unset] [(.long p6), (.ref a51)])) _
    refine st74.trans ?_
    show Steps p.tables e below (T74.setTop (mkF m 167 #[.val (.long p1), .second, .val (.long p2), .second, .val (.long p3), .second, .val (.long p4), .second, .val (.long p5), .second, .val (.long p6), .second, .val (.ref a1), .val (.ref a51), .unset, .unset, .unset, .unset, .unset, .unset, .unset, .unset, .unset, .unset, .unset, .unset] [])) _
    refine XS.aload X74.here hx rfl (hb hby at_167) rfl rfl ?_
    show Steps p.tables e below (T74.setTop (mkF m 169 #[.val (.long p1), .second, .val (.long p2), .second, .val (.long p3), .second, .val (.long p4), .second, .val (.long p5), .second, .val (.long p6), .second, .val (.ref a1), .val (.ref a51), .unset, .unset, .unset, .unset, .unset, .unset, .unset, .unset, .unset, .unset, .unset, .unset] [(.ref a51)])) _
    refine st77.trans ?_
    show Steps p.tables e below (T77.setTop (mkF m 172 #[.val (.long p1), .second, .val (.long p2), .second, .val (.long p3), .second, .val (.long p4), .second, .val (.long p5), .second, .val (.long p6), .second, .val (.ref a1), .val (.ref a51), .unset, .unset, .unset, .unset, .unset, .unset, .unset, .unset, .unset, .unset, .unset, .unset] [(.long z74_0)])) _
    refine XS.lstore X77.here hx rfl (hb hby at_172) rfl (l' := #[.val (.long p1), .second, .val (.long p2), .second, .val (.long p3), .second, .val (.long p4), .second, .val (.long p5), .second, .val (.long p6), .second, .val (.ref a1), .val (.ref a51), .val (.long z74_0), .second, .unset, .unset, .unset, .unset, .unset, .unset, .unset, .unset, .unset, .unset]) rfl ?_
    show Steps p.tables e below (T77.setTop (mkF m 174 #[.val (.long p1), .second, .val (.long p2), .second, .val (.long p3), .second, .val (.long p4), .second, .val (.long p5), .second, .val (.long p6), .second, .val (.ref a1), .val (.ref a51), .val (.long z74_0), .second, .unset, .unset, .unset, .unset, .unset, .unset, .unset, .unset, .unset, .unset] [])) _
    refine XS.aload X77.here hx rfl (hb hby at_174) rfl rfl ?_
    show Steps p.tables e below (T77.setTop (mkF m 176 #[.val (.long p1), .second, .val (.long p2), .second, .val (.long p3), .second, .val (.long p4), .second, .val (.long p5), .second, .val (.long p6), .second, .val (.ref a1), .val (.ref a51), .val (.long z74_0), .second, .unset, .unset, .unset, .unset, .unset, .unset, .unset, .unset, .unset, .unset] [(.ref a51)])) _
    refine st80.trans ?_
    show Steps p.tables e below (T80.setTop (mkF m 179 #[.val (.long p1), .second, .val (.long p2), .second, .val (.long p3), .second, .val (.long p4), .second, .val (.long p5), .second, .val (.long p6), .second, .val (.ref a1), .val (.ref a51), .val (.long z74_0), .second, .unset, .unset, .unset, .unset, .unset, .unset, .unset, .unset, .unset, .unset] [(.long z77_0)])) _
    refine XS.lstore X80.here hx rfl (hb hby at_179) rfl (l' := #[.val (.long p1), .second, .val (.long p2), .second, .val (.long p3), .second, .val (.long p4), .second, .val (.long p5), .second, .val (.long p6), .second, .val (.ref a1), .val (.ref a51), .val (.long z74_0), .second, .val (.long z77_0), .second, .unset, .unset, .unset, .unset, .unset, .unset, .unset, .unset]) rfl ?_
    show Steps p.tables e below (T80.setTop (mkF m 181 #[.val (.long p1), .second, .val (.long p2), .second, .val (.long p3), .second, .val (.long p4), .second, .val (.long p5), .second, .val (.long p6), .second, .val (.ref a1), .val (.ref a51), .val (.long z74_0), .second, .val (.long z77_0), .second, .unset, .unset, .unset, .unset, .unset, .unset, .unset, .unset] [])) _
    refine XS.aload X80.here hx rfl (hb hby at_181) rfl rfl ?_
    show Steps p.tables e below (T80.setTop (mkF m 183 #[.val (.long p1), .second, .val (.long p2), .second, .val (.long p3), .second, .val (.long p4), .second, .val (.long p5), .second, .val (.long p6), .second, .val (.ref a1), .val (.ref a51), .val (.long z74_0), .second, .val (.long z77_0), .second, .unset, .unset, .unset, .unset, .unset, .unset, .unset, .unset] [(.ref a51)])) _
    refine st83.trans ?_
    show Steps p.tables e below (T83.setTop (mkF m 186 #[.val (.long p1), .second, .val (.long p2), .second, .val (.long p3), .second, .val (.long p4), .second, .val (.long p5), .second, .val (.long p6), .second, .val (.ref a1), .val (.ref a51), .val (.long z74_0), .second, .val (.long z77_0), .second, .unset, .unset, .unset, .unset, .unset, .unset, .unset, .unset] [(.long z80_0)])) _
    refine XS.lstore X83.here hx rfl (hb hby at_186) rfl (l' := #[.val (.long p1), .second, .val (.long p2), .second, .val (.long p3), .second, .val (.long p4), .second, .val (.long p5), .second, .val (.long p6), .second, .val (.ref a1), .val (.ref a51), .val (.long z74_0), .second, .val (.long z77_0), .second, .val (.long z80_0), .second, .unset, .unset, .unset, .unset, .unset, .unset]) rfl ?_
    show Steps p.tables e below (T83.setTop (mkF m 188 #[.val (.long p1), .second, .val (.long p2), .second, .val (.long p3), .second, .val (.long p4), .second, .val (.long p5), .second, .val (.long p6), .second, .val (.ref a1), .val (.ref a51), .val (.long z74_0), .second, .val (.long z77_0), .second, .val (.long z80_0), .second, .unset, .unset, .unset, .unset, .unset, .unset] [])) _
    refine XS.aload X83.here hx rfl (hb hby at_188) rfl rfl ?_
    show Steps p.tables e below (T83.setTop (mkF m 190 #[.val (.long p1), .second, .val (.long p2), .second, .val (.long p3), .second, .val (.long p4), .second, .val (.long p5), .second, .val (.long p6), .second, .val (.ref a1), .val (.ref a51), .val (.long z74_0), .second, .val (.long z77_0), .second, .val (.long z80_0), .second, .unset, .unset, .unset, .unset, .unset, .unset] [(.ref a51)])) _
    refine st86.trans ?_
    show Steps p.tables e below (T86.setTop (mkF m 193 #[.val (.long p1), .second, .val (.long p2), .second, .val (.long p3), .second, .val (.long p4), .second, .val (.long p5), .second, .val (.long p6), .second, .val (.ref a1), .val (.ref a51), .val (.long z74_0), .second, .val (.long z77_0), .second, .val (.long z80_0), .second, .unset, .unset, .unset, .unset, .unset, .unset] [(.long z83_0)])) _
    refine XS.lstore X86.here hx rfl (hb hby at_193) rfl (l' := #[.val (.long p1), .second, .val (.long p2), .second, .val (.long p3), .second, .val (.long p4), .second, .val (.long p5), .second, .val (.long p6), .second, .val (.ref a1), .val (.ref a51), .val (.long z74_0), .second, .val (.long z77_0), .second, .val (.long z80_0), .second, .val (.long z83_0), .second, .unset, .unset, .unset, .unset]) rfl ?_
    show Steps p.tables e below (T86.setTop (mkF m 195 #[.val (.long p1), .second, .val (.long p2), .second, .val (.long p3), .second, .val (.long p4), .second, .val (.long p5), .second, .val (.long p6), .second, .val (.ref a1), .val (.ref a51), .val (.long z74_0), .second, .val (.long z77_0), .second, .val (.long z80_0), .second, .val (.long z83_0), .second, .unset, .unset, .unset, .unset] [])) _
    refine XS.aload X86.here hx rfl (hb hby at_195) rfl rfl ?_
    show Steps p.tables e below (T86.setTop (mkF m 197 #[.val (.long p1), .second, .val (.long p2), .second, .val (.long p3), .second, .val (.long p4), .second, .val (.long p5), .second, .val (.long p6), .second, .val (.ref a1), .val (.ref a51), .val (.long z74_0), .second, .val (.long z77_0), .second, .val (.long z80_0), .second, .val (.long z83_0), .second, .unset, .unset, .unset, .unset] [(.ref a51)])) _
    refine st89.trans ?_
    show Steps p.tables e below (T89.setTop (mkF m 200 #[.val (.long p1), .second, .val (.long p2), .second, .val (.long p3), .second, .val (.long p4), .second, .val (.long p5), .second, .val (.long p6), .second, .val (.ref a1), .val (.ref a51), .val (.long z74_0), .second, .val (.long z77_0), .second, .val (.long z80_0), .second, .val (.long z83_0), .second, .unset, .unset, .unset, .unset] [(.long z86_0)])) _
    refine XS.lstore X89.here hx rfl (hb hby at_200) rfl (l' := #[.val (.long p1), .second, .val (.long p2), .second, .val (.long p3), .second, .val (.long p4), .second, .val (.long p5), .second, .val (.long p6), .second, .val (.ref a1), .val (.ref a51), .val (.long z74_0), .second, .val (.long z77_0), .second, .val (.long z80_0), .second, .val (.long z83_0), .second, .val (.long z86_0), .second, .unset, .unset]) rfl ?_
    show Steps p.tables e below (T89.setTop (mkF m 202 #[.val (.long p1), .second, .val (.long p2), .second, .val (.long p3), .second, .val (.long p4), .second, .val (.long p5), .second, .val (.long p6), .second, .val (.ref a1), .val (.ref a51), .val (.long z74_0), .second, .val (.long z77_0), .second, .val (.long z80_0), .second, .val (.long z83_0), .second, .val (.long z86_0), .second, .unset, .unset] [])) _
    refine XS.aload X89.here hx rfl (hb hby at_202) rfl rfl ?_
    show Steps p.tables e below (T89.setTop (mkF m 204 #[.val (.long p1), .second, .val (.long p2), .second, .val (.long p3), .second, .val (.long p4), .second, .val (.long p5), .second, .val (.long p6), .second, .val (.ref a1), .val (.ref a51), .val (.long z74_0), .second, .val (.long z77_0), .second, .val (.long z80_0), .second, .val (.long z83_0), .second, .val (.long z86_0), .second, .unset, .unset] [(.ref a51)])) _
    refine st92.trans ?_
    show Steps p.tables e below (T92.setTop (mkF m 207 #[.val (.long p1), .second, .val (.long p2), .second, .val (.long p3), .second, .val (.long p4), .second, .val (.long p5), .second, .val (.long p6), .second, .val (.ref a1), .val (.ref a51), .val (.long z74_0), .second, .val (.long z77_0), .second, .val (.long z80_0), .second, .val (.long z83_0), .second, .val (.long z86_0), .second, .unset, .unset] [(.long z89_0)])) _
    refine XS.lstore X92.here hx rfl (hb hby at_207) rfl (l' := #[.val (.long p1), .second, .val (.long p2), .second, .val (.long p3), .second, .val (.long p4), .second, .val (.long p5), .second, .val (.long p6), .second, .val (.ref a1), .val (.ref a51), .val (.long z74_0), .second, .val (.long z77_0), .second, .val (.long z80_0), .second, .val (.long z83_0), .second, .val (.long z86_0), .second, .val (.long z89_0), .second]) rfl ?_
    show Steps p.tables e below (T92.setTop (mkF m 209 #[.val (.long p1), .second, .val (.long p2), .second, .val (.long p3), .second, .val (.long p4), .second, .val (.long p5), .second, .val (.long p6), .second, .val (.ref a1), .val (.ref a51), .val (.long z74_0), .second, .val (.long z77_0), .second, .val (.long z80_0), .second, .val (.long z83_0), .second, .val (.long z86_0), .second, .val (.long z89_0), .second] [])) _
    exact k
  have fin := own_final hz27 hz29 hz31 hz33 hz35 hz37 hz39 hz41 hz43 hz45 hz47 hz49 hz59 hz62 hz65 hz68 hz71 hz74 hz77 hz80 hz83 hz86 hz89 hz92
  obtain ⟨cl95, Ar95, q95, S95, M95, H95, U95⟩ := id V94
  have hi96 : ¬ (0 : Int32) < 0 ∧ (0 : Int32).toNatClampNeg < (6 : Int32).toNatClampNeg := by decide
  have ha96 : cl95.slots[(0 : Int32).toNatClampNeg]? = some (.long z49_0) := H95 _ (by rw [S95]; exact hi96.2)
  have hc216_97 : z74_0 = z49_0 := fin.1
  have hi98 : ¬ (1 : Int32) < 0 ∧ (1 : Int32).toNatClampNeg < (6 : Int32).toNatClampNeg := by decide
  have ha98 : cl95.slots[(1 : Int32).toNatClampNeg]? = some (.long z49_1) := H95 _ (by rw [S95]; exact hi98.2)
  have hc226_99 : z77_0 = z49_1 := fin.2.1
  have hi100 : ¬ (2 : Int32) < 0 ∧ (2 : Int32).toNatClampNeg < (6 : Int32).toNatClampNeg := by decide
  have ha100 : cl95.slots[(2 : Int32).toNatClampNeg]? = some (.long z49_2) := H95 _ (by rw [S95]; exact hi100.2)
  have hc236_101 : z80_0 = z49_2 := fin.2.2.1
  have hi102 : ¬ (3 : Int32) < 0 ∧ (3 : Int32).toNatClampNeg < (6 : Int32).toNatClampNeg := by decide
  have ha102 : cl95.slots[(3 : Int32).toNatClampNeg]? = some (.long z49_3) := H95 _ (by rw [S95]; exact hi102.2)
  have hc246_103 : z83_0 = z49_3 := fin.2.2.2.1
  have hi104 : ¬ (4 : Int32) < 0 ∧ (4 : Int32).toNatClampNeg < (6 : Int32).toNatClampNeg := by decide
  have ha104 : cl95.slots[(4 : Int32).toNatClampNeg]? = some (.long z49_4) := H95 _ (by rw [S95]; exact hi104.2)
  have hc256_105 : z86_0 = z49_4 := fin.2.2.2.2.1
  have hi106 : ¬ (5 : Int32) < 0 ∧ (5 : Int32).toNatClampNeg < (6 : Int32).toNatClampNeg := by decide
  have ha106 : cl95.slots[(5 : Int32).toNatClampNeg]? = some (.long z49_5) := H95 _ (by rw [S95]; exact hi106.2)
  have hc266_107 : z89_0 = z49_5 := fin.2.2.2.2.2
  refine own_end X92 Bd.notSynchronized (v := some (.int (1 : Int32))) (fun h => by rw [Bd.returns] at h; cases h) (fun fs hr => ?_) rfl ?_ (by decide) (by decide)
  · show Steps p.tables e below (T92.setTop (mkF m 209 #[.val (.long p1), .second, .val (.long p2), .second, .val (.long p3), .second, .val (.long p4), .second, .val (.long p5), .second, .val (.long p6), .second, .val (.ref a1), .val (.ref a51), .val (.long z74_0), .second, .val (.long z77_0), .second, .val (.long z80_0), .second, .val (.long z83_0), .second, .val (.long z86_0), .second, .val (.long z89_0), .second] [])) _
    refine XS.lload X92.here hx rfl (hb hby at_209) rfl ?_
    show Steps p.tables e below (T92.setTop (mkF m 211 #[.val (.long p1), .second, .val (.long p2), .second, .val (.long p3), .second, .val (.long p4), .second, .val (.long p5), .second, .val (.long p6), .second, .val (.ref a1), .val (.ref a51), .val (.long z74_0), .second, .val (.long z77_0), .second, .val (.long z80_0), .second, .val (.long z83_0), .second, .val (.long z86_0), .second, .val (.long z89_0), .second] [(.long z74_0)])) _
    refine XS.aload X92.here hx rfl (hb hby at_211) rfl rfl ?_
    show Steps p.tables e below (T92.setTop (mkF m 213 #[.val (.long p1), .second, .val (.long p2), .second, .val (.long p3), .second, .val (.long p4), .second, .val (.long p5), .second, .val (.long p6), .second, .val (.ref a1), .val (.ref a51), .val (.long z74_0), .second, .val (.long z77_0), .second, .val (.long z80_0), .second, .val (.long z83_0), .second, .val (.long z86_0), .second, .val (.long z89_0), .second] [(.ref a1), (.long z74_0)])) _
    refine XS.iconst X92.here hx rfl (hb hby at_213) ?_
    show Steps p.tables e below (T92.setTop (mkF m 214 #[.val (.long p1), .second, .val (.long p2), .second, .val (.long p3), .second, .val (.long p4), .second, .val (.long p5), .second, .val (.long p6), .second, .val (.ref a1), .val (.ref a51), .val (.long z74_0), .second, .val (.long z77_0), .second, .val (.long z80_0), .second, .val (.long z83_0), .second, .val (.long z86_0), .second, .val (.long z89_0), .second] [(.int (0 : Int32)), (.ref a1), (.long z74_0)])) _
    refine X92.laload hx (j := (0 : Int32)) (v := (.long z49_0)) Ar95.1 (State.isArrayOf_alike hZ.alike Ar95.2.1) Ar95.2.2 (own_hin S95 hi96) ha96 (g := (mkF m 214 #[.val (.long p1), .second, .val (.long p2), .second, .val (.long p3), .second, .val (.long p4), .second, .val (.long p5), .second, .val (.long p6), .second, .val (.ref a1), .val (.ref a51), .val (.long z74_0), .second, .val (.long z77_0), .second, .val (.long z80_0), .second, .val (.long z83_0), .second, .val (.long z86_0), .second, .val (.long z89_0), .second] [(.int (0 : Int32)), (.ref a1), (.long z74_0)])) rfl rfl (hb hby at_214) _ ?_
    show Steps p.tables e below (T92.setTop (mkF m 215 #[.val (.long p1), .second, .val (.long p2), .second, .val (.long p3), .second, .val (.long p4), .second, .val (.long p5), .second, .val (.long p6), .second, .val (.ref a1), .val (.ref a51), .val (.long z74_0), .second, .val (.long z77_0), .second, .val (.long z80_0), .second, .val (.long z83_0), .second, .val (.long z86_0), .second, .val (.long z89_0), .second] [(.long z49_0), (.long z74_0)])) _
    refine XS.lcmp X92.here hx rfl (hb hby at_215) rfl ?_
    show Steps p.tables e below (T92.setTop (mkF m 216 #[.val (.long p1), .second, .val (.long p2), .second, .val (.long p3), .second, .val (.long p4), .second, .val (.long p5), .second, .val (.long p6), .second, .val (.ref a1), .val (.ref a51), .val (.long z74_0), .second, .val (.long z77_0), .second, .val (.long z80_0), .second, .val (.long z83_0), .second, .val (.long z86_0), .second, .val (.long z89_0), .second] [(.int (lcmpW z74_0 z49_0))])) _
    refine XS.ifNo X92.here hx rfl (hb hby at_216) rfl ((if0 _ _).trans (teq ((lw_eq z74_0 z49_0).mpr hc216_97)).2) ?_
    show Steps p.tables e below (T92.setTop (mkF m 219 #[.val (.long p1), .second, .val (.long p2), .second, .val (.long p3), .second, .val (.long p4), .second, .val (.long p5), .second, .val (.long p6), .second, .val (.ref a1), .val (.ref a51), .val (.long z74_0), .second, .val (.long z77_0), .second, .val (.long z80_0), .second, .val (.long z83_0), .second, .val (.long z86_0), .second, .val (.long z89_0), .second] [])) _
    refine XS.lload X92.here hx rfl (hb hby at_219) rfl ?_
    show Steps p.tables e below (T92.setTop (mkF m 221 #[.val (.long p1), .second, .val (.long p2), .second, .val (.long p3), .second, .val (.long p4), .second, .val (.long p5), .second, .val (.long p6), .second, .val (.ref a1), .val (.ref a51), .val (.long z74_0), .second, .val (.long z77_0), .second, .val (.long z80_0), .second, .val (.long z83_0), .second, .val (.long z86_0), .second, .val (.long z89_0), .second] [(.long z77_0)])) _
    refine XS.aload X92.here hx rfl (hb hby at_221) rfl rfl ?_
    show Steps p.tables e below (T92.setTop (mkF m 223 #[.val (.long p1), .second, .val (.long p2), .second, .val (.long p3), .second, .val (.long p4), .second, .val (.long p5), .second, .val (.long p6), .second, .val (.ref a1), .val (.ref a51), .val (.long z74_0), .second, .val (.long z77_0), .second, .val (.long z80_0), .second, .val (.long z83_0), .second, .val (.long z86_0), .second, .val (.long z89_0), .second] [(.ref a1), (.long z77_0)])) _
    refine XS.iconst X92.here hx rfl (hb hby at_223) ?_
    show Steps p.tables e below (T92.setTop (mkF m 224 #[.val (.long p1), .second, .val (.long p2), .second, .val (.long p3), .second, .val (.long p4), .second, .val (.long p5), .second, .val (.long p6), .second, .val (.ref a1), .val (.ref a51), .val (.long z74_0), .second, .val (.long z77_0), .second, .val (.long z80_0), .second, .val (.long z83_0), .second, .val (.long z86_0), .second, .val (.long z89_0), .second] [(.int (1 : Int32)), (.ref a1), (.long z77_0)])) _
    refine X92.laload hx (j := (1 : Int32)) (v := (.long z49_1)) Ar95.1 (State.isArrayOf_alike hZ.alike Ar95.2.1) Ar95.2.2 (own_hin S95 hi98) ha98 (g := (mkF m 224 #[.val (.long p1), .second, .val (.long p2), .second, .val (.long p3), .second, .val (.long p4), .second, .val (.long p5), .second, .val (.long p6), .second, .val (.ref a1), .val (.ref a51), .val (.long z74_0), .second, .val (.long z77_0), .second, .val (.long z80_0), .second, .val (.long z83_0), .second, .val (.long z86_0), .second, .val (.long z89_0), .second] [(.int (1 : Int32)), (.ref a1), (.long z77_0)])) rfl rfl (hb hby at_224) _ ?_
    show Steps p.tables e below (T92.setTop (mkF m 225 #[.val (.long p1), .second, .val (.long p2), .second, .val (.long p3), .second, .val (.long p4), .second, .val (.long p5), .second, .val (.long p6), .second, .val (.ref a1), .val (.ref a51), .val (.long z74_0), .second, .val (.long z77_0), .second, .val (.long z80_0), .second, .val (.long z83_0), .second, .val (.long z86_0), .second, .val (.long z89_0), .second] [(.long z49_1), (.long z77_0)])) _
    refine XS.lcmp X92.here hx rfl (hb hby at_225) rfl ?_
    show Steps p.tables e below (T92.setTop (mkF m 226 #[.val (.long p1), .second, .val (.long p2), .second, .val (.long p3), .second, .val (.long p4), .second, .val (.long p5), .second, .val (.long p6), .second, .val (.ref a1), .val (.ref a51), .val (.long z74_0), .second, .val (.long z77_0), .second, .val (.long z80_0), .second, .val (.long z83_0), .second, .val (.long z86_0), .second, .val (.long z89_0), .second] [(.int (lcmpW z77_0 z49_1))])) _
    refine XS.ifNo X92.here hx rfl (hb hby at_226) rfl ((if0 _ _).trans (teq ((lw_eq z77_0 z49_1).mpr hc226_99)).2) ?_
    show Steps p.tables e below (T92.setTop (mkF m 229 #[.val (.long p1), .second, .val (.long p2), .second, .val (.long p3), .second, .val (.long p4), .second, .val (.long p5), .second, .val (.long p6), .second, .val (.ref a1), .val (.ref a51), .val (.long z74_0), .second, .val (.long z77_0), .second, .val (.long z80_0), .second, .val (.long z83_0), .second, .val (.long z86_0), .second, .val (.long z89_0), .second] [])) _
    refine XS.lload X92.here hx rfl (hb hby at_229) rfl ?_
    show Steps p.tables e below (T92.setTop (mkF m 231 #[.val (.long p1), .second, .val (.long p2), .second, .val (.long p3), .second, .val (.long p4), .second, .val (.long p5), .second, .val (.long p6), .second, .val (.ref a1), .val (.ref a51), .val (.long z74_0), .second, .val (.long z77_0), .second, .val (.long z80_0), .second, .val (.long z83_0), .second, .val (.long z86_0), .second, .val (.long z89_0), .second] [(.long z80_0)])) _
    refine XS.aload X92.here hx rfl (hb hby at_231) rfl rfl ?_
    show Steps p.tables e below (T92.setTop (mkF m 233 #[.val (.long p1), .second, .val (.long p2), .second, .val (.long p3), .second, .val (.long p4), .second, .val (.long p5), .second, .val (.long p6), .second, .val (.ref a1), .val (.ref a51), .val (.long z74_0), .second, .val (.long z77_0), .second, .val (.long z80_0), .second, .val (.long z83_0), .second, .val (.long z86_0), .second, .val (.long z89_0), .second] [(.ref a1), (.long z80_0)])) _
    refine XS.iconst X92.here hx rfl (hb hby at_233) ?_
    show Steps p.tables e below (T92.setTop (mkF m 234 #[.val (.long p1), .second, .val (.long p2), .second, .val (.long p3), .second, .val (.long p4), .second, .val (.long p5), .second, .val (.long p6), .second, .val (.ref a1), .val (.ref a51), .val (.long z74_0), .second, .val (.long z77_0), .second, .val (.long z80_0), .second, .val (.long z83_0), .second, .val (.long z86_0), .second, .val (.long z89_0), .second] [(.int (2 : Int32)), (.ref a1), (.long z80_0)])) _
    refine X92.laload hx (j := (2 : Int32)) (v := (.long z49_2)) Ar95.1 (State.isArrayOf_alike hZ.alike Ar95.2.1) Ar95.2.2 (own_hin S95 hi100) ha100 (g := (mkF m 234 #[.val (.long p1), .second, .val (.long p2), .second, .val (.long p3), .second, .val (.long p4), .second, .val (.long p5), .second, .val (.long p6), .second, .val (.ref a1), .val (.ref a51), .val (.long z74_0), .second, .val (.long z77_0), .second, .val (.long z80_0), .second, .val (.long z83_0), .second, .val (.long z86_0), .second, .val (.long z89_0), .second] [(.int (2 : Int32)), (.ref a1), (.long z80_0)])) rfl rfl (hb hby at_234) _ ?_
    show Steps p.tables e below (T92.setTop (mkF m 235 #[.val (.long p1), .second, .val (.long p2), .second, .val (.long p3), .second, .val (.long p4), .second, .val (.long p5), .second, .val (.long p6), .second, .val (.ref a1), .val (.ref a51), .val (.long z74_0), .second, .val (.long z77_0), .second, .val (.long z80_0), .second, .val (.long z83_0), .second, .val (.long z86_0), .second, .val (.long z89_0), .second] [(.long z49_2), (.long z80_0)])) _
    refine XS.lcmp X92.here hx rfl (hb hby at_235) rfl ?_
    show Steps p.tables e below (T92.setTop (mkF m 236 #[.val (.long p1), .second, .val (.long p2), .second, .val (.long p3), .second, .val (.long p4), .second, .val (.long p5), .second, .val (.long p6), .second, .val (.ref a1), .val (.ref a51), .val (.long z74_0), .second, .val (.long z77_0), .second, .val (.long z80_0), .second, .val (.long z83_0), .second, .val (.long z86_0), .second, .val (.long z89_0), .second] [(.int (lcmpW z80_0 z49_2))])) _
    refine XS.ifNo X92.here hx rfl (hb hby at_236) rfl ((if0 _ _).trans (teq ((lw_eq z80_0 z49_2).mpr hc236_101)).2) ?_
    show Steps p.tables e below (T92.setTop (mkF m 239 #[.val (.long p1), .second, .val (.long p2), .second, .val (.long p3), .second, .val (.long p4), .second, .val (.long p5), .second, .val (.long p6), .second, .val (.ref a1), .val (.ref a51), .val (.long z74_0), .second, .val (.long z77_0), .second, .val (.long z80_0), .second, .val (.long z83_0), .second, .val (.long z86_0), .second, .val (.long z89_0), .second] [])) _
    refine XS.lload X92.here hx rfl (hb hby at_239) rfl ?_
    show Steps p.tables e below (T92.setTop (mkF m 241 #[.val (.long p1), .second, .val (.long p2), .second, .val (.long p3), .second, .val (.long p4), .second, .val (.long p5), .second, .val (.long p6), .second, .val (.ref a1), .val (.ref a51), .val (.long z74_0), .second, .val (.long z77_0), .second, .val (.long z80_0), .second, .val (.long z83_0), .second, .val (.long z86_0), .second, .val (.long z89_0), .second] [(.long z83_0)])) _
    refine XS.aload X92.here hx rfl (hb hby at_241) rfl rfl ?_
    show Steps p.tables e below (T92.setTop (mkF m 243 #[.val (.long p1), .second, .val (.long p2), .second, .val (.long p3), .second, .val (.long p4), .second, .val (.long p5), .second, .val (.long p6), .second, .val (.ref a1), .val (.ref a51), .val (.long z74_0), .second, .val (.long z77_0), .second, .val (.long z80_0), .second, .val (.long z83_0), .second, .val (.long z86_0), .second, .val (.long z89_0), .second] [(.ref a1), (.long z83_0)])) _
    refine XS.iconst X92.here hx rfl (hb hby at_243) ?_
    show Steps p.tables e below (T92.setTop (mkF m 244 #[.val (.long p1), .second, .val (.long p2), .second, .val (.long p3), .second, .val (.long p4), .second, .val (.long p5), .second, .val (.long p6), .second, .val (.ref a1), .val (.ref a51), .val (.long z74_0), .second, .val (.long z77_0), .second, .val (.long z80_0), .second, .val (.long z83_0), .second, .val (.long z86_0), .second, .val (.long z89_0), .second] [(.int (3 : Int32)), (.ref a1), (.long z83_0)])) _
    refine X92.laload hx (j := (3 : Int32)) (v := (.long z49_3)) Ar95.1 (State.isArrayOf_alike hZ.alike Ar95.2.1) Ar95.2.2 (own_hin S95 hi102) ha102 (g := (mkF m 244 #[.val (.long p1), .second, .val (.long p2), .second, .val (.long p3), .second, .val (.long p4), .second, .val (.long p5), .second, .val (.long p6), .second, .val (.ref a1), .val (.ref a51), .val (.long z74_0), .second, .val (.long z77_0), .second, .val (.long z80_0), .second, .val (.long z83_0), .second, .val (.long z86_0), .second, .val (.long z89_0), .second] [(.int (3 : Int32)), (.ref a1), (.long z83_0)])) rfl rfl (hb hby at_244) _ ?_
    show Steps p.tables e below (T92.setTop (mkF m 245 #[.val (.long p1), .second, .val (.long p2), .second, .val (.long p3), .second, .val (.long p4), .second, .val (.long p5), .second, .val (.long p6), .second, .val (.ref a1), .val (.ref a51), .val (.long z74_0), .second, .val (.long z77_0), .second, .val (.long z80_0), .second, .val (.long z83_0), .second, .val (.long z86_0), .second, .val (.long z89_0), .second] [(.long z49_3), (.long z83_0)])) _
    refine XS.lcmp X92.here hx rfl (hb hby at_245) rfl ?_
    show Steps p.tables e below (T92.setTop (mkF m 246 #[.val (.long p1), .second, .val (.long p2), .second, .val (.long p3), .second, .val (.long p4), .second, .val (.long p5), .second, .val (.long p6), .second, .val (.ref a1), .val (.ref a51), .val (.long z74_0), .second, .val (.long z77_0), .second, .val (.long z80_0), .second, .val (.long z83_0), .second, .val (.long z86_0), .second, .val (.long z89_0), .second] [(.int (lcmpW z83_0 z49_3))])) _
    refine XS.ifNo X92.here hx rfl (hb hby at_246) rfl ((if0 _ _).trans (teq ((lw_eq z83_0 z49_3).mpr hc246_103)).2) ?_
    show Steps p.tables e below (T92.setTop (mkF m 249 #[.val (.long p1), .second, .val (.long p2), .second, .val (.long p3), .second, .val (.long p4), .second, .val (.long p5), .second, .val (.long p6), .second, .val (.ref a1), .val (.ref a51), .val (.long z74_0), .second, .val (.long z77_0), .second, .val (.long z80_0), .second, .val (.long z83_0), .second, .val (.long z86_0), .second, .val (.long z89_0), .second] [])) _
    refine XS.lload X92.here hx rfl (hb hby at_249) rfl ?_
    show Steps p.tables e below (T92.setTop (mkF m 251 #[.val (.long p1), .second, .val (.long p2), .second, .val (.long p3), .second, .val (.long p4), .second, .val (.long p5), .second, .val (.long p6), .second, .val (.ref a1), .val (.ref a51), .val (.long z74_0), .second, .val (.long z77_0), .second, .val (.long z80_0), .second, .val (.long z83_0), .second, .val (.long z86_0), .second, .val (.long z89_0), .second] [(.long z86_0)])) _
    refine XS.aload X92.here hx rfl (hb hby at_251) rfl rfl ?_
    show Steps p.tables e below (T92.setTop (mkF m 253 #[.val (.long p1), .second, .val (.long p2), .second, .val (.long p3), .second, .val (.long p4), .second, .val (.long p5), .second, .val (.long p6), .second, .val (.ref a1), .val (.ref a51), .val (.long z74_0), .second, .val (.long z77_0), .second, .val (.long z80_0), .second, .val (.long z83_0), .second, .val (.long z86_0), .second, .val (.long z89_0), .second] [(.ref a1), (.long z86_0)])) _
    refine XS.iconst X92.here hx rfl (hb hby at_253) ?_
    show Steps p.tables e below (T92.setTop (mkF m 254 #[.val (.long p1), .second, .val (.long p2), .second, .val (.long p3), .second, .val (.long p4), .second, .val (.long p5), .second, .val (.long p6), .second, .val (.ref a1), .val (.ref a51), .val (.long z74_0), .second, .val (.long z77_0), .second, .val (.long z80_0), .second, .val (.long z83_0), .second, .val (.long z86_0), .second, .val (.long z89_0), .second] [(.int (4 : Int32)), (.ref a1), (.long z86_0)])) _
    refine X92.laload hx (j := (4 : Int32)) (v := (.long z49_4)) Ar95.1 (State.isArrayOf_alike hZ.alike Ar95.2.1) Ar95.2.2 (own_hin S95 hi104) ha104 (g := (mkF m 254 #[.val (.long p1), .second, .val (.long p2), .second, .val (.long p3), .second, .val (.long p4), .second, .val (.long p5), .second, .val (.long p6), .second, .val (.ref a1), .val (.ref a51), .val (.long z74_0), .second, .val (.long z77_0), .second, .val (.long z80_0), .second, .val (.long z83_0), .second, .val (.long z86_0), .second, .val (.long z89_0), .second] [(.int (4 : Int32)), (.ref a1), (.long z86_0)])) rfl rfl (hb hby at_254) _ ?_
    show Steps p.tables e below (T92.setTop (mkF m 255 #[.val (.long p1), .second, .val (.long p2), .second, .val (.long p3), .second, .val (.long p4), .second, .val (.long p5), .second, .val (.long p6), .second, .val (.ref a1), .val (.ref a51), .val (.long z74_0), .second, .val (.long z77_0), .second, .val (.long z80_0), .second, .val (.long z83_0), .second, .val (.long z86_0), .second, .val (.long z89_0), .second] [(.long z49_4), (.long z86_0)])) _
    refine XS.lcmp X92.here hx rfl (hb hby at_255) rfl ?_
    show Steps p.tables e below (T92.setTop (mkF m 256 #[.val (.long p1), .second, .val (.long p2), .second, .val (.long p3), .second, .val (.long p4), .second, .val (.long p5), .second, .val (.long p6), .second, .val (.ref a1), .val (.ref a51), .val (.long z74_0), .second, .val (.long z77_0), .second, .val (.long z80_0), .second, .val (.long z83_0), .second, .val (.long z86_0), .second, .val (.long z89_0), .second] [(.int (lcmpW z86_0 z49_4))])) _
    refine XS.ifNo X92.here hx rfl (hb hby at_256) rfl ((if0 _ _).trans (teq ((lw_eq z86_0 z49_4).mpr hc256_105)).2) ?_
    show Steps p.tables e below (T92.setTop (mkF m 259 #[.val (.long p1), .second, .val (.long p2), .second, .val (.long p3), .second, .val (.long p4), .second, .val (.long p5), .second, .val (.long p6), .second, .val (.ref a1), .val (.ref a51), .val (.long z74_0), .second, .val (.long z77_0), .second, .val (.long z80_0), .second, .val (.long z83_0), .second, .val (.long z86_0), .second, .val (.long z89_0), .second] [])) _
    refine XS.lload X92.here hx rfl (hb hby at_259) rfl ?_
    show Steps p.tables e below (T92.setTop (mkF m 261 #[.val (.long p1), .second, .val (.long p2), .second, .val (.long p3), .second, .val (.long p4), .second, .val (.long p5), .second, .val (.long p6), .second, .val (.ref a1), .val (.ref a51), .val (.long z74_0), .second, .val (.long z77_0), .second, .val (.long z80_0), .second, .val (.long z83_0), .second, .val (.long z86_0), .second, .val (.long z89_0), .second] [(.long z89_0)])) _
    refine XS.aload X92.here hx rfl (hb hby at_261) rfl rfl ?_
    show Steps p.tables e below (T92.setTop (mkF m 263 #[.val (.long p1), .second, .val (.long p2), .second, .val (.long p3), .second, .val (.long p4), .second, .val (.long p5), .second, .val (.long p6), .second, .val (.ref a1), .val (.ref a51), .val (.long z74_0), .second, .val (.long z77_0), .second, .val (.long z80_0), .second, .val (.long z83_0), .second, .val (.long z86_0), .second, .val (.long z89_0), .second] [(.ref a1), (.long z89_0)])) _
    refine XS.iconst X92.here hx rfl (hb hby at_263) ?_
    show Steps p.tables e below (T92.setTop (mkF m 264 #[.val (.long p1), .second, .val (.long p2), .second, .val (.long p3), .second, .val (.long p4), .second, .val (.long p5), .second, .val (.long p6), .second, .val (.ref a1), .val (.ref a51), .val (.long z74_0), .second, .val (.long z77_0), .second, .val (.long z80_0), .second, .val (.long z83_0), .second, .val (.long z86_0), .second, .val (.long z89_0), .second] [(.int (5 : Int32)), (.ref a1), (.long z89_0)])) _
    refine X92.laload hx (j := (5 : Int32)) (v := (.long z49_5)) Ar95.1 (State.isArrayOf_alike hZ.alike Ar95.2.1) Ar95.2.2 (own_hin S95 hi106) ha106 (g := (mkF m 264 #[.val (.long p1), .second, .val (.long p2), .second, .val (.long p3), .second, .val (.long p4), .second, .val (.long p5), .second, .val (.long p6), .second, .val (.ref a1), .val (.ref a51), .val (.long z74_0), .second, .val (.long z77_0), .second, .val (.long z80_0), .second, .val (.long z83_0), .second, .val (.long z86_0), .second, .val (.long z89_0), .second] [(.int (5 : Int32)), (.ref a1), (.long z89_0)])) rfl rfl (hb hby at_264) _ ?_
    show Steps p.tables e below (T92.setTop (mkF m 265 #[.val (.long p1), .second, .val (.long p2), .second, .val (.long p3), .second, .val (.long p4), .second, .val (.long p5), .second, .val (.long p6), .second, .val (.ref a1), .val (.ref a51), .val (.long z74_0), .second, .val (.long z77_0), .second, .val (.long z80_0), .second, .val (.long z83_0), .second, .val (.long z86_0), .second, .val (.long z89_0), .second] [(.long z49_5), (.long z89_0)])) _
    refine XS.lcmp X92.here hx rfl (hb hby at_265) rfl ?_
    show Steps p.tables e below (T92.setTop (mkF m 266 #[.val (.long p1), .second, .val (.long p2), .second, .val (.long p3), .second, .val (.long p4), .second, .val (.long p5), .second, .val (.long p6), .second, .val (.ref a1), .val (.ref a51), .val (.long z74_0), .second, .val (.long z77_0), .second, .val (.long z80_0), .second, .val (.long z83_0), .second, .val (.long z86_0), .second, .val (.long z89_0), .second] [(.int (lcmpW z89_0 z49_5))])) _
    refine XS.ifNo X92.here hx rfl (hb hby at_266) rfl ((if0 _ _).trans (teq ((lw_eq z89_0 z49_5).mpr hc266_107)).2) ?_
    show Steps p.tables e below (T92.setTop (mkF m 269 #[.val (.long p1), .second, .val (.long p2), .second, .val (.long p3), .second, .val (.long p4), .second, .val (.long p5), .second, .val (.long p6), .second, .val (.ref a1), .val (.ref a51), .val (.long z74_0), .second, .val (.long z77_0), .second, .val (.long z80_0), .second, .val (.long z83_0), .second, .val (.long z86_0), .second, .val (.long z89_0), .second] [])) _
    refine XS.iconst X92.here hx rfl (hb hby at_269) ?_
    show Steps p.tables e below (T92.setTop (mkF m 270 #[.val (.long p1), .second, .val (.long p2), .second, .val (.long p3), .second, .val (.long p4), .second, .val (.long p5), .second, .val (.long p6), .second, .val (.ref a1), .val (.ref a51), .val (.long z74_0), .second, .val (.long z77_0), .second, .val (.long z80_0), .second, .val (.long z83_0), .second, .val (.long z86_0), .second, .val (.long z89_0), .second] [(.int (1 : Int32))])) _
    refine XS.goto X92.here hx rfl (pc0 := 270) (pc' := 274) rfl (hb hby at_270) (by decide) (by decide) ?_
    show Steps p.tables e below (T92.setTop (mkF m 274 #[.val (.long p1), .second, .val (.long p2), .second, .val (.long p3), .second, .val (.long p4), .second, .val (.long p5), .second, .val (.long p6), .second, .val (.ref a1), .val (.ref a51), .val (.long z74_0), .second, .val (.long z77_0), .second, .val (.long z80_0), .second, .val (.long z83_0), .second, .val (.long z86_0), .second, .val (.long z89_0), .second] [(.int (1 : Int32))])) _
    exact retN X92 hx (t := .boolean) Bd.returns (by simp) (hb hby at_274) hr
  · exact ⟨rfl, N92⟩
set_option maxRecDepth 65536 in
set_option maxHeartbeats 40000000 in
theorem comes_1 {Post : Tables → Env → Array Value → State → Outcome → State → Prop} (hpost : ∀ tb e args s v u, (limb_1_1.after args s (.returned v) u = true ∧ limb_1_2.after args s (.returned v) u = true ∧ True) → FrameEnd s (.returned v) u (Jvm.fieldLocs frame_1_writes args s ++ Jvm.arrayLocs frame_1_arrays args s ++ Jvm.staticLocs frame_1_statics s) 16 128 → Post tb e args s (.returned v) u) :
    ArmFor flags0 classFile x code maxLocals ret World_1 tables_1 room_1 Calls_1 rest_1 Pre_1 Post := by
  intro l hfl _ _ p e ha hc hk s m args below hf hA hF happ hP
  obtain ⟨hcalls, hrest, hpre⟩ := hP
  obtain ⟨-, -, -, hnamed, -, -, -, hat⟩ := (Spec.applies_iff hf).mp happ
  obtain ⟨hg, hn⟩ := and_e (Cond.before_iff.mp (show (Jvm.Cond.and given_1 narrow_1).before args s = true from hpre))
  obtain ⟨g0, r0⟩ := and_e hg
  obtain ⟨g1, r1⟩ := and_e r0
  obtain ⟨g2, r2⟩ := and_e r1
  obtain ⟨g3, r3⟩ := and_e r2
  obtain ⟨g4, r4⟩ := and_e r3
  obtain ⟨g5, r5⟩ := and_e r4
  obtain ⟨w0, w1, w2, w3, w4, w5, rfl⟩ : ∃ w0 w1 w2 w3 w4 w5 : Value, args = #[w0, w1, w2, w3, w4, w5] := by
    have hs : args.size = 6 := by simpa [Cond.value, given_1] using g0
    obtain ⟨L⟩ := args
    match L, hs with
    | [w0, w1, w2, w3, w4, w5], _ => exact ⟨w0, w1, w2, w3, w4, w5, rfl⟩
  have hw := fun d (hd : d ∈ tables_1) => atoms_spec (ws := Jvm.Cond.code x code maxLocals ret :: tables_1) hat d (List.mem_cons_of_mem _ hd)
  obtain ⟨i0, y0⟩ := isL_v g1
  obtain rfl : w0 = (.long i0) := Option.some.inj y0
  obtain ⟨i1, y1⟩ := isL_v g2
  obtain rfl : w1 = (.long i1) := Option.some.inj y1
  obtain ⟨i2, y2⟩ := isL_v g3
  obtain rfl : w2 = (.long i2) := Option.some.inj y2
  obtain ⟨i3, y3⟩ := isL_v g4
  obtain rfl : w3 = (.long i3) := Option.some.inj y3
  obtain ⟨i4, y4⟩ := isL_v g5
  obtain rfl : w4 = (.long i4) := Option.some.inj y4
  obtain ⟨i5, y5⟩ := isL_v r5
  obtain rfl : w5 = (.long i5) := Option.some.inj y5
  obtain ⟨n, o, h1, h2, h3, _, L, rfl, ⟨rfl, N⟩, hq⟩ := rm0 l s _ hw tables_1 i0 i1 i2 i3 i4 i5 s.heap s.heap.size (Nat.le_refl _) p e ha hc hk s m _ below hf ((Spec.applies_iff_loose hf).mp happ).1 ⟨rfl, State.Warmed39.refl s, rfl⟩ trivial
  refine ⟨n, _, h1, h2, h3, hpost _ _ _ _ _ _ ⟨Cond.after_iff.mpr rfl, Cond.after_iff.mpr (eq_i res_at (Term.int_eval (1)) rfl), trivial⟩ ⟨hq.1, hq.2.1, (hq.2.2.sift fun y hy => Or.inr (N y hy)).mono (by decide) (by decide)⟩⟩
theorem main_1_1 : Claimed_1_1 := comes_1 fun _ _ _ _ _ _ h hF => ⟨h.1, hF⟩
theorem main_1_2 : Claimed_1_2 := comes_1 fun _ _ _ _ _ _ h hF => ⟨h.2.1, hF⟩
end Jvm.Pilot.@@N@@
namespace Jvm.Pilot.@@N@@
open Jvm Jvm.ClassFile Sem Op Lib Jvm.Free Jvm.Stand Jvm.Pilot.@@N@@.Jvm.D
/-! MADE BY PROGRAM (witnessworld.py) out of the Statement's table words and the real class files: 11 classes; the members and pool entries that the words name. The judged class is class 1, her method 2. -/
namespace start1
open Jvm.ClassFile
def u (s : String) : CpInfo := .utf8 (stringToUtf16 s)
/-- a pool by its gaps: so many unusable entries, then the entry; so many at the end -/
def gap : Nat → List CpInfo → List CpInfo
  | 0, r => r
  | n + 1, r => .unusable :: gap n r
def poolList (es : List (Nat × CpInfo)) (last : Nat) : List CpInfo := es.foldr (fun e r => gap e.1 (e.2 :: r)) (gap last [])
def pool (es : List (Nat × CpInfo)) (last : Nat) : Array CpInfo := ⟨poolList es last⟩
def fileOf (pool : Array CpInfo) (this : Nat) (attrs : Array Attribute := #[]) (ms : Array MethodInfo := #[]) (fl : Nat := 33) (sup : Nat := 0) (ifs : Array Nat := #[]) (fds : Array FieldInfo := #[]) : ClassFile where
  minorVersion := 0
  majorVersion := 65
  constantPool := pool
  accessFlags := fl
  thisClass := this
  superClass := sup
  interfaces := ifs
  fields := fds
  methods := ms
  attributes := attrs
def plain (name : String) (sup : Option ClassId) : Class where
  name := name
  kind := .ordinary
  loader := none
  accessFlags := 33
  super := sup
  interfaces := #[]
  cf := none
  fields := #[]
  methods := #[]
  instanceTypes := #[]
  staticTypes := #[]
  resolved := #[]
  callSites := []
  init := .initialized
  statics := none
  mirror := none

def pool0 : Array CpInfo := pool [(5, u "<init>"), (0, u "()V"), (1, .class_ 10), (1, u "java/lang/Object")] 113

def k0c0 : Code := { maxStack := 0, maxLocals := 1, code := object_method_1_code, exceptionTable := #[], attributes := #[] }
def k0m0 : Method := { name := "<init>", desc := "()V", sig := { parameters := [], returnType := none }, accessFlags := 1, code := some k0c0 }
/-- java/lang/Object -/
def k0 : Class := { plain "java/lang/Object" none with
  accessFlags := 33
  interfaces := #[]
  cf := some (fileOf pool0 8 #[] #[{ accessFlags := 1, nameIndex := 5, descriptorIndex := 6, attributes := #[] }] 33 0 #[] #[])
  fields := #[]
  methods := #[k0m0]
  instanceTypes := #[]
  staticTypes := #[]
  resolved := Array.replicate 124 none
  statics := none }

def pool1 : Array CpInfo := pool [(2, .class_ 4), (0, .nameAndType 5 6), (0, u "java/lang/Object"), (0, u "<init>"), (0, u "()V"), (0, .methodref 8 9), (0, .class_ 10), (0, .nameAndType 11 12), (0, u "com/example/kdata/kdata/LongHeapRemoveLeastPinLaw"), (0, u "cs"), (0, u "([JII)V"), (0, .class_ 14), (0, u "com/example/kdata/kdata/LongHeap"), (0, .methodref 13 3), (0, .methodref 13 17), (0, .nameAndType 18 19), (0, u "add"), (0, u "(J)V"), (0, .methodref 13 21), (0, .nameAndType 22 23), (0, u "removeLeast"), (0, u "()J"), (3, u "law"), (0, u "(JJJJJJ)Z")] 4

def k1m0 : Method := { name := "<init>", desc := "()V", sig := { parameters := [], returnType := none }, accessFlags := 1, code := none }
def k1c1 : Code := { maxStack := 4, maxLocals := 5, code := method_2_code, exceptionTable := #[], attributes := #[] }
def k1m1 : Method := { name := "cs", desc := "([JII)V", sig := { parameters := [(.array .long), .int, .int], returnType := none }, accessFlags := 10, code := some k1c1 }
def k1c2 : Code := { maxStack := 5, maxLocals := 26, code := code, exceptionTable := #[], attributes := #[] }
def k1m2 : Method := { name := "law", desc := "(JJJJJJ)Z", sig := { parameters := [.long, .long, .long, .long, .long, .long], returnType := some .boolean }, accessFlags := 9, code := some k1c2 }
/-- com/example/kdata/kdata/LongHeapRemoveLeastPinLaw -/
def k1 : Class := { plain "com/example/kdata/kdata/LongHeapRemoveLeastPinLaw" (some 0) with
  accessFlags := 49
  interfaces := #[]
  cf := some (fileOf pool1 8 #[] #[{ accessFlags := 1, nameIndex := 5, descriptorIndex := 6, attributes := #[] }, { accessFlags := 10, nameIndex := 11, descriptorIndex := 12, attributes := #[] }, { accessFlags := 9, nameIndex := 27, descriptorIndex := 28, attributes := #[] }] 49 2 #[] #[])
  fields := #[]
  methods := #[k1m0, k1m1, k1m2]
  instanceTypes := #[]
  staticTypes := #[]
  resolved := Array.replicate 33 none
  statics := none }

def pool2 : Array CpInfo := pool [(1, .methodref 2 3), (0, .class_ 4), (0, .nameAndType 5 6), (0, u "java/lang/Object"), (0, u "<init>"), (0, u "()V"), (0, .fieldref 8 9), (0, .class_ 10), (0, .nameAndType 11 12), (0, u "com/example/kdata/kdata/LongHeap"), (0, u "data"), (0, u "[J"), (0, .fieldref 8 14), (0, .nameAndType 15 16), (0, u "size"), (0, u "I"), (11, u "add"), (0, u "(J)V"), (0, u "removeLeast"), (0, u "()J")] 2

def k2c0 : Code := { maxStack := 2, maxLocals := 1, code := prog_81_method_1_code, exceptionTable := #[], attributes := #[] }
def k2m0 : Method := { name := "<init>", desc := "()V", sig := { parameters := [], returnType := none }, accessFlags := 0, code := some k2c0 }
def k2c1 : Code := { maxStack := 5, maxLocals := 4, code := prog_81_method_3_code, exceptionTable := #[], attributes := #[] }
def k2m1 : Method := { name := "add", desc := "(J)V", sig := { parameters := [.long], returnType := none }, accessFlags := 0, code := some k2c1 }
def k2c2 : Code := { maxStack := 4, maxLocals := 7, code := prog_81_method_4_code, exceptionTable := #[], attributes := #[] }
def k2m2 : Method := { name := "removeLeast", desc := "()J", sig := { parameters := [], returnType := some .long }, accessFlags := 0, code := some k2c2 }
/-- com/example/kdata/kdata/LongHeap -/
def k2 : Class := { plain "com/example/kdata/kdata/LongHeap" (some 0) with
  accessFlags := 48
  interfaces := #[]
  cf := some (fileOf pool2 8 #[] #[{ accessFlags := 0, nameIndex := 5, descriptorIndex := 6, attributes := #[] }, { accessFlags := 0, nameIndex := 28, descriptorIndex := 29, attributes := #[] }, { accessFlags := 0, nameIndex := 30, descriptorIndex := 31, attributes := #[] }] 48 2 #[] #[{ accessFlags := 2, nameIndex := 11, descriptorIndex := 12, attributes := #[] }, { accessFlags := 2, nameIndex := 15, descriptorIndex := 16, attributes := #[] }])
  fields := #[{ name := "data", type := (.array .long), accessFlags := 2, slot := 0, constantValue := 0 }, { name := "size", type := .int, accessFlags := 2, slot := 1, constantValue := 0 }]
  methods := #[k2m0, k2m1, k2m2]
  instanceTypes := #[(.array .long), .int]
  staticTypes := #[]
  resolved := Array.replicate 34 none
  statics := none }

def pool3 : Array CpInfo := pool [(1, u "java/lang/Cloneable"), (0, .class_ 1), (0, u "java/lang/Object"), (0, .class_ 3)] 3

/-- java/lang/Cloneable -/
def k3 : Class := { plain "java/lang/Cloneable" (some 0) with
  accessFlags := 1537
  interfaces := #[]
  cf := some (fileOf pool3 2 #[] #[] 1537 4 #[] #[])
  fields := #[]
  methods := #[]
  instanceTypes := #[]
  staticTypes := #[]
  resolved := Array.replicate 8 none
  statics := none }

def pool4 : Array CpInfo := pool [(1, u "java/io/Serializable"), (0, .class_ 1), (0, u "java/lang/Object"), (0, .class_ 3)] 3

/-- java/io/Serializable -/
def k4 : Class := { plain "java/io/Serializable" (some 0) with
  accessFlags := 1537
  interfaces := #[]
  cf := some (fileOf pool4 2 #[] #[] 1537 4 #[] #[])
  fields := #[]
  methods := #[]
  instanceTypes := #[]
  staticTypes := #[]
  resolved := Array.replicate 8 none
  statics := none }

/-- the primitive byte -/
def k5 : Class := { plain "byte" none with kind := .primitive 'B', accessFlags := 0x411 }
/-- [B -/
def k6 : Class := { plain "[B" (some 0) with kind := .array 5 .byte, interfaces := #[3, 4], accessFlags := 1041 }

/-- the primitive int -/
def k7 : Class := { plain "int" none with kind := .primitive 'I', accessFlags := 0x411 }
/-- [I -/
def k8 : Class := { plain "[I" (some 0) with kind := .array 7 .int, interfaces := #[3, 4], accessFlags := 1041 }

/-- the primitive long -/
def k9 : Class := { plain "long" none with kind := .primitive 'J', accessFlags := 0x411 }
/-- [J -/
def k10 : Class := { plain "[J" (some 0) with kind := .array 9 .long, interfaces := #[3, 4], accessFlags := 1041 }

def heap : Heap := #[]
def classes : Array Class := #[k0, k1, k2, k3, k4, k5, k6, k7, k8, k9, k10]
def interned : List (Array UInt16 × Addr) := []
def slotsUsed : Nat := 0
def theMethod : MethodId := ⟨1, 2⟩
def args0 : Array Value := #[.long 5, .long 1, .long 2, .long 3, .long 4, .long 6]
def aboutOver (below : List Frame) : State where
  vm := { classes := classes, interned := interned.toArray }
  heap := heap
  slotsUsed := slotsUsed
  threads := #[{ frames := .invoking theMethod args0 :: below }]
def below0 : List Frame := [.native { method := ⟨0, 0⟩, args := #[] }]
def about1 : State := aboutOver below0
def p0 : Program := .bare "" "" ""
def e0 : Env := launch0.env 0 0 0
theorem w_frames : about1.frames = Frame.invoking theMethod args0 :: below0 := rfl
set_option maxRecDepth 65536 in
theorem w_args : argsFit about1.vm theMethod args0 = true := by decide +kernel
set_option maxRecDepth 65536 in
theorem w_heap : heapFits about1 = true := by decide +kernel
set_option maxRecDepth 65536 in
theorem w_runnable : about1.curStatus? = some .runnable := by decide +kernel
set_option maxRecDepth 65536 in
theorem w_alone : about1.alone = true := by decide +kernel
set_option maxRecDepth 65536 in
theorem w_named : about1.methodNamed? x = some theMethod := by decide +kernel
set_option maxRecDepth 65536 in
theorem w_hears : about1.hears theMethod below0 = true := by decide +kernel
set_option maxRecDepth 65536 in
theorem w_ripe : about1.ripe theMethod args0 below0 = true := by decide +kernel
theorem w_running : about1.status = .running := rfl
set_option maxRecDepth 65536 in
theorem w_room : about1.hasRoom e0.platform room_1 = true :=
  launch0.hasRoom_least _ room_1 (by decide +kernel) (by decide +kernel) (by decide +kernel) (by decide +kernel) (by decide +kernel) (by decide +kernel)
theorem allAtoms_all (ts : List Jvm.Cond) (a : Array Jvm.Value) (st : Jvm.State) : (allAtoms ts).before a st = ts.all (fun c => c.before a st) := by
  induction ts with
  | nil => rfl
  | cons c t ih =>
    show (Jvm.Cond.and c (allAtoms t)).before a st = _
    rw [Jvm.Cond.before_and, ih, List.all_cons]
def words1 : List Jvm.Cond := Jvm.Cond.code x code maxLocals ret :: tables_1
/-- a 'code' word, met by the world's own term for the bytes: nothing is compared byte by byte -/
theorem code_word {y : MethodName} {bytes : ByteArray} {mx : Nat} {rt : Option FieldType} {a : Array Value} {s : State} {m : MethodId} {meth : Method} {c : Code} (h1 : s.methodNamed? y = some m) (h2 : s.vm.method? m = some meth) (h3 : meth.code = some c) (h4 : c.code = bytes)
    (h5 : (c.maxLocals == mx && c.exceptionTable.isEmpty && decide (c.maxStack ≤ mostOperands) && decide (meth.sig.returnType = rt) && !meth.locks && decide (parseMethodDescriptor y.desc = some meth.sig)) = true) : (Jvm.Cond.code y bytes mx rt).before a s = true := by
  simp only [Bool.and_eq_true, beq_iff_eq, Bool.not_eq_true', decide_eq_true_eq] at h5
  obtain ⟨⟨⟨⟨⟨g1, g2⟩, g3⟩, g4⟩, g5⟩, g6⟩ := h5
  simp [Cond.before, Cond.holds, Cond.value, h1, h2, h3, h4, g1, g2, g3, g4, g5, g6]
def isCode : Jvm.Cond → Bool
  | .code _ _ _ _ => true
  | _ => false
theorem all_split {L : List Jvm.Cond} {P : Jvm.Cond → Bool} (h1 : L.all (fun c => isCode c || P c) = true) (h2 : ∀ c ∈ L.filter isCode, P c = true) : L.all P = true := by
  refine List.all_eq_true.mpr fun c hc => ?_
  have h := List.all_eq_true.mp h1 c hc
  rcases Bool.eq_false_or_eq_true (isCode c) with hi | hi
  · exact h2 c (List.mem_filter.mpr ⟨hc, hi⟩)
  · simpa [hi] using h
set_option maxRecDepth 65536 in
theorem w_c0 : (Jvm.Cond.code x code maxLocals ret).before args0 about1 = true := code_word (m := ⟨1, 2⟩) (meth := k1m2) (c := k1c2) (by decide +kernel) rfl rfl rfl (by decide +kernel)
set_option maxRecDepth 65536 in
theorem w_c1 : (Jvm.Cond.code ({ cls := "com/example/kdata/kdata/LongHeapRemoveLeastPinLaw", name := "cs", desc := "([JII)V" } : Jvm.MethodName) method_2_code (5 : Nat) (Option.none : Option Jvm.ClassFile.FieldType)).before args0 about1 = true := code_word (m := ⟨1, 1⟩) (meth := k1m1) (c := k1c1) (by decide +kernel) rfl rfl rfl (by decide +kernel)
set_option maxRecDepth 65536 in
theorem w_c2 : (Jvm.Cond.code ({ cls := "com/example/kdata/kdata/LongHeap", name := "<init>", desc := "()V" } : Jvm.MethodName) prog_81_method_1_code (1 : Nat) (Option.none : Option Jvm.ClassFile.FieldType)).before args0 about1 = true := code_word (m := ⟨2, 0⟩) (meth := k2m0) (c := k2c0) (by decide +kernel) rfl rfl rfl (by decide +kernel)
set_option maxRecDepth 65536 in
theorem w_c3 : (Jvm.Cond.code ({ cls := "java/lang/Object", name := "<init>", desc := "()V" } : Jvm.MethodName) object_method_1_code (1 : Nat) (Option.none : Option Jvm.ClassFile.FieldType)).before args0 about1 = true := code_word (m := ⟨0, 0⟩) (meth := k0m0) (c := k0c0) (by decide +kernel) rfl rfl rfl (by decide +kernel)
set_option maxRecDepth 65536 in
theorem w_c4 : (Jvm.Cond.code ({ cls := "com/example/kdata/kdata/LongHeap", name := "add", desc := "(J)V" } : Jvm.MethodName) prog_81_method_3_code (4 : Nat) (Option.none : Option Jvm.ClassFile.FieldType)).before args0 about1 = true := code_word (m := ⟨2, 1⟩) (meth := k2m1) (c := k2c1) (by decide +kernel) rfl rfl rfl (by decide +kernel)
set_option maxRecDepth 65536 in
theorem w_c5 : (Jvm.Cond.code ({ cls := "com/example/kdata/kdata/LongHeap", name := "removeLeast", desc := "()J" } : Jvm.MethodName) prog_81_method_4_code (7 : Nat) (Option.some Jvm.ClassFile.FieldType.long)).before args0 about1 = true := code_word (m := ⟨2, 2⟩) (meth := k2m2) (c := k2c2) (by decide +kernel) rfl rfl rfl (by decide +kernel)
def codes1 : List Jvm.Cond := [Jvm.Cond.code x code maxLocals ret, Jvm.Cond.code ({ cls := "com/example/kdata/kdata/LongHeapRemoveLeastPinLaw", name := "cs", desc := "([JII)V" } : Jvm.MethodName) method_2_code (5 : Nat) (Option.none : Option Jvm.ClassFile.FieldType), Jvm.Cond.code ({ cls := "com/example/kdata/kdata/LongHeap", name := "<init>", desc := "()V" } : Jvm.MethodName) prog_81_method_1_code (1 : Nat) (Option.none : Option Jvm.ClassFile.FieldType), Jvm.Cond.code ({ cls := "java/lang/Object", name := "<init>", desc := "()V" } : Jvm.MethodName) object_method_1_code (1 : Nat) (Option.none : Option Jvm.ClassFile.FieldType), Jvm.Cond.code ({ cls := "com/example/kdata/kdata/LongHeap", name := "add", desc := "(J)V" } : Jvm.MethodName) prog_81_method_3_code (4 : Nat) (Option.none : Option Jvm.ClassFile.FieldType), Jvm.Cond.code ({ cls := "com/example/kdata/kdata/LongHeap", name := "removeLeast", desc := "()J" } : Jvm.MethodName) prog_81_method_4_code (7 : Nat) (Option.some Jvm.ClassFile.FieldType.long)]
set_option maxRecDepth 65536 in
theorem codes_eq : words1.filter isCode = codes1 := rfl
theorem w_codes : ∀ c ∈ words1.filter isCode, c.before args0 about1 = true := by
  rw [codes_eq]
  intro c hc
  simp only [codes1, List.mem_cons, List.not_mem_nil, or_false] at hc
  rcases hc with rfl | rfl | rfl | rfl | rfl | rfl
  · exact w_c0
  · exact w_c1
  · exact w_c2
  · exact w_c3
  · exact w_c4
  · exact w_c5
set_option maxRecDepth 65536 in
theorem w_t1 : (words1.take 24).all (fun c => isCode c || c.before args0 about1) = true := by decide +kernel
set_option maxRecDepth 65536 in
theorem w_t2 : (words1.drop 24).all (fun c => isCode c || c.before args0 about1) = true := by decide +kernel
theorem w_tables : (allAtoms (Jvm.Cond.code x code maxLocals ret :: tables_1)).before args0 about1 = true := by
  rw [allAtoms_all]
  show words1.all (fun c => c.before args0 about1) = true
  refine all_split ?_ w_codes
  rw [← List.take_append_drop 24 words1, List.all_append, w_t1, w_t2]
  rfl
set_option maxRecDepth 65536 in
theorem w_case : (Jvm.Cond.and given_1 narrow_1).before args0 about1 = true := by decide +kernel
theorem w_applies : (headSpec (Jvm.Cond.code x code maxLocals ret :: tables_1) room_1).applies x e0.platform about1 = true :=
  (Spec.applies_iff w_frames).mpr ⟨w_running, w_runnable, w_alone, w_named, w_hears, w_ripe, w_room, w_tables⟩
theorem atStart : AtStart classFile x code maxLocals ret World_1 tables_1 room_1 Calls_1 rest_1 Pre_1 launch0 p0 e0 about1 theMethod args0 below0 :=
  ⟨lists_1, trivial, launch0.admits_env _ _ _, launch0.least_env, fairChoices_fair.cas, fairChoices_fair.clock, w_frames, w_args, w_heap, w_applies, trivial, trivial, w_case⟩
end start1
theorem witness_1 : WitnessClaimed_1 := ⟨start1.p0, start1.e0, start1.about1, start1.theMethod, start1.args0, start1.below0, start1.atStart⟩
end Jvm.Pilot.@@N@@
