import JvmDerived
import JvmDerived.Pilot.@@N@@Statement
import JvmDerived.Pilot.@@N@@Code
set_option linter.unusedVariables false
set_option linter.unusedSimpArgs false
@@BLOCK:NumsL.lean.txt@@
@@BLOCK:Masks.lean.txt@@
namespace Jvm.RoadKit
open Sem ClassFile Op Lib Jvm.Stand Jvm.Free Jvm.LawKit
section New
variable {p : Program} {l : Launch} {e : Env} {R : Room} {s : State} {m : MethodId} {args : Array Value} {below : List Frame} {meth : Method} {c : Code} {T : State} {locs : List Loc} {cells slots : Nat}
theorem retI (X : Stand p l e R s m args below meth c T locs cells slots) (hx : p.tables.exec = Jvm.exec) {pc : Nat} {Ls : Array Slot} {z : Int32} {rest : List Value} (hret : meth.sig.returnType = some .int) (hd : decode c.code pc = .ok (.ireturn, 1)) {fs : List Frame}
    (hl : ∀ (f : JFrame) (acts : List Action), f.method = m → f.locked = none → f.entered = [] → (doReturn e (T.setTop f) acts (some (.int z))).1 = T.setFrames fs) : Steps p.tables e below (T.setTop (mkF m pc Ls (.int z :: rest))) (T.setFrames fs) := by
  have hm' : T.vm.method? m = some meth := X.method'
  have hn : narrow .int (.int z) = .int z := rfl
  show Steps p.tables e below (T.setTop { method := m, pc := pc, locals := Ls, stack := _ :: rest, locked := none }) _
  jvm_step X.here [X.here.top, hx, hd, hm', hret, hn]
  first | (intro acts; rw [hl _ acts rfl rfl rfl]) | rw [hl _ _ rfl rfl rfl]
  exact Steps.refl _
end New
end Jvm.RoadKit
namespace Jvm.Pilot.@@N@@
open Jvm Jvm.ClassFile Sem Op Lib Jvm.Free Jvm.Stand Jvm.LawKit Jvm.RoadKit Bundle Jvm.Pilot.@@N@@.Jvm.D
abbrev own_Go (p : Program) (e : Env) (below : List Frame) (s : State) (Q : Option Value → Heap → List Loc → Prop) (cs ss : Nat) (a : State) : Prop := ∃ (t : State) (o : Outcome), Steps p.tables e below a t ∧ t.status = .running ∧ Ended t below o ∧ ∃ (v : Option Value) (L : List Loc), o = .returned v ∧ Q v t.heap L ∧ FrameEnd s o t L cs ss
section Own
variable {p : Program} {l : Launch} {e : Env} {R : Room} {s : State} {m : MethodId} {args : Array Value} {below : List Frame} {meth : Method} {c : Code} {T : State} {locs : List Loc} {cells slots : Nat} {Q : Option Value → Heap → List Loc → Prop} {cs ss : Nat}
theorem own_go {a b : State} (h : ∀ t, Steps p.tables e below b t → Steps p.tables e below a t) (g : own_Go p e below s Q cs ss b) : own_Go p e below s Q cs ss a := by
  obtain ⟨t, o, h1, h2⟩ := g
  exact ⟨t, o, h t h1, h2⟩
theorem own_end (X : Stand p l e R s m args below meth c T locs cells slots) (hlk : meth.locks = false) {v : Option Value} (hv : meth.sig.returnType = none → v = none) {a : State}
    (hs : ∀ fs, (∀ (f : JFrame) (acts : List Action), f.method = m → f.locked = none → f.entered = [] → (doReturn e (T.setTop f) acts v).1 = T.setFrames fs) → Steps p.tables e below a (T.setFrames fs))
    {h : Heap} (eT : T.heap = h) (hq : Q v h locs) (h1 : cells ≤ cs) (h2 : slots ≤ ss) : own_Go p e below s Q cs ss a := by
  obtain ⟨fs, hr, hrun, hended, hW, hsame⟩ := X.leave hv hlk
  subst eT
  exact ⟨_, _, hs fs hr, hrun, hended, _, _, rfl, hq, ⟨_, rfl⟩, hW, hsame.mono h1 h2⟩
end Own
theorem own_hin {n : Nat} {cl : Cell} {j : Int32} (S : cl.slots.size = n) (h : ¬ j < 0 ∧ j.toNatClampNeg < n) : ¬ (j < 0 ∨ cl.slots.size ≤ j.toNatClampNeg) := by
  rw [S]; exact fun q => q.elim h.1 (fun u => absurd h.2 (Nat.not_lt.mpr u))
theorem own_has {cl : Cell} {xs : List Int32} {n : Nat} (H : Has cl (xs.map Value.int) (.int 0)) (S : cl.slots.size = n) : ∀ i, i < n → cl.slots[i]? = some (.int (xs.getD i 0)) := by
  intro i hi
  rw [H i (by rw [S]; exact hi)]
  simp only [List.getD_eq_getElem?_getD, List.getElem?_map]
  cases xs[i]? <;> rfl
theorem own_hasL {cl : Cell} {xs : List Int64} {n : Nat} (H : Has cl (xs.map Value.long) (.long 0)) (S : cl.slots.size = n) : ∀ i, i < n → cl.slots[i]? = some (.long (xs.getD i 0)) := by
  intro i hi
  rw [H i (by rw [S]; exact hi)]
  simp only [List.getD_eq_getElem?_getD, List.getElem?_map]
  cases xs[i]? <;> rfl
theorem own_succ {j z : Int32} (h : 0 ≤ j.toInt) (h2 : j.toInt < z.toInt) : (j + (1 : Int32)).toInt = j.toInt + 1 ∧ (j + (1 : Int32)).toNatClampNeg = j.toNatClampNeg + 1 := by
  have hz := z.toInt_lt
  have e1 : (1 : Int32).toInt = 1 := rfl
  have e : (j + (1 : Int32)).toInt = j.toInt + 1 := by rw [Jvm.Kit.i32_add (by rw [e1]; omega) (by rw [e1]; omega), e1]
  refine ⟨e, ?_⟩
  show (j + (1 : Int32)).toInt.toNat = j.toInt.toNat + 1
  rw [e]; omega
theorem own_ix {j z : Int32} (h : 0 ≤ j.toInt) (h2 : j.toInt < z.toInt) : ¬ j < 0 ∧ j.toNatClampNeg < z.toNatClampNeg := by
  refine ⟨?_, ?_⟩
  · rw [Int32.lt_iff_toInt_lt]; show ¬ _ < (0 : Int); omega
  · show j.toInt.toNat < z.toInt.toNat; omega
/-- from place i on, k of them: all -1 -/
def own_missA (f : Nat → Int32) : Nat → Nat → Int32
  | 0, _ => (1 : Int32)
  | k + 1, i => if f i = (-1 : Int32) then own_missA f k (i + 1) else (0 : Int32)
def own_miss_0 (f : Nat → Int32) (z : Int32) : Int32 := own_missA f z.toNatClampNeg 0
theorem own_m0 (f : Nat → Int32) : own_miss_0 f (0 : Int32) = 1 := rfl
theorem own_m1 (f : Nat → Int32) : own_miss_0 f (1 : Int32) = if f 0 = (-1 : Int32) then (1 : Int32) else (0 : Int32) := rfl
theorem own_m2 (f : Nat → Int32) : own_miss_0 f (2 : Int32) = if f 0 = (-1 : Int32) then if f 1 = (-1 : Int32) then (1 : Int32) else (0 : Int32) else (0 : Int32) := rfl
theorem own_m3 (f : Nat → Int32) : own_miss_0 f (3 : Int32) = if f 0 = (-1 : Int32) then if f 1 = (-1 : Int32) then if f 2 = (-1 : Int32) then (1 : Int32) else (0 : Int32) else (0 : Int32) else (0 : Int32) := rfl
theorem own_and3 (x : Int32) : (x &&& (3 : Int32)) = (0 : Int32) ∨ (x &&& (3 : Int32)) = (1 : Int32) ∨ (x &&& (3 : Int32)) = (2 : Int32) ∨ (x &&& (3 : Int32)) = (3 : Int32) := by
  have h := Jvm.Kit.i32_mask x 3 (k := 2) (by decide) (by decide)
  have e0 : (0 : Int32).toInt = 0 := rfl
  have e1 : (1 : Int32).toInt = 1 := rfl
  have e2 : (2 : Int32).toInt = 2 := rfl
  have e3 : (3 : Int32).toInt = 3 := rfl
  rw [← Int32.toInt_inj, ← Int32.toInt_inj, ← Int32.toInt_inj, ← Int32.toInt_inj, h, e0, e1, e2, e3]
  omega
theorem d1_0 : decode prog_1_method_6_code 0 = .ok (.aload_n 0, 1) := by decide +kernel
theorem d1_1 : decode prog_1_method_6_code 1 = .ok (.astore_n 1, 1) := by decide +kernel
theorem d1_2 : decode prog_1_method_6_code 2 = .ok (.aload_n 1, 1) := by decide +kernel
theorem d1_3 : decode prog_1_method_6_code 3 = .ok (.arraylength, 1) := by decide +kernel
theorem d1_4 : decode prog_1_method_6_code 4 = .ok (.istore_n 2, 1) := by decide +kernel
theorem d1_5 : decode prog_1_method_6_code 5 = .ok (.iconst 0, 1) := by decide +kernel
theorem d1_6 : decode prog_1_method_6_code 6 = .ok (.istore_n 3, 1) := by decide +kernel
theorem d1_7 : decode prog_1_method_6_code 7 = .ok (.iload_n 3, 1) := by decide +kernel
theorem d1_8 : decode prog_1_method_6_code 8 = .ok (.iload_n 2, 1) := by decide +kernel
theorem d1_9 : decode prog_1_method_6_code 9 = .ok (.if_icmp .ge 22, 3) := by decide +kernel
theorem d1_12 : decode prog_1_method_6_code 12 = .ok (.aload_n 1, 1) := by decide +kernel
theorem d1_13 : decode prog_1_method_6_code 13 = .ok (.iload_n 3, 1) := by decide +kernel
theorem d1_14 : decode prog_1_method_6_code 14 = .ok (.iaload, 1) := by decide +kernel
theorem d1_15 : decode prog_1_method_6_code 15 = .ok (.istore 4, 2) := by decide +kernel
theorem d1_17 : decode prog_1_method_6_code 17 = .ok (.iload 4, 2) := by decide +kernel
theorem d1_19 : decode prog_1_method_6_code 19 = .ok (.iconst (-1), 1) := by decide +kernel
theorem d1_20 : decode prog_1_method_6_code 20 = .ok (.if_icmp .eq 5, 3) := by decide +kernel
theorem d1_23 : decode prog_1_method_6_code 23 = .ok (.iconst 0, 1) := by decide +kernel
theorem d1_24 : decode prog_1_method_6_code 24 = .ok (.ireturn, 1) := by decide +kernel
theorem d1_25 : decode prog_1_method_6_code 25 = .ok (.iinc 3 1, 3) := by decide +kernel
theorem d1_28 : decode prog_1_method_6_code 28 = .ok (.goto (-21), 3) := by decide +kernel
theorem d1_31 : decode prog_1_method_6_code 31 = .ok (.iconst 1, 1) := by decide +kernel
theorem d1_32 : decode prog_1_method_6_code 32 = .ok (.ireturn, 1) := by decide +kernel
theorem pn_1 : plainName "com/example/landrace_ledger/landraceledger/core/GenotypeEncoding" = true := by first | (simp [plainName, overriddenIn]; done) | decide +kernel
theorem ef_1 (m : MethodId) (x0 : Addr) : entryFrame m #[(.ref x0)] 5 = mkF m 0 #[.val (.ref x0), .unset, .unset, .unset, .unset] [] := by first | (simp [entryFrame, mkF, argsToLocals, Value.category]; done) | rfl
def Q1 (b1 : Addr) (cl_b1 : Cell) (f_b1 : Nat → Int32) (z_b1 : Int32) (h0 : Heap) (n0 : Nat) (v : Option Value) (h : Heap) (L : List Loc) : Prop := v = some (.int (own_miss_0 f_b1 z_b1)) ∧ Fr n0 L ∧ h = h0
set_option maxRecDepth 65536 in
set_option maxHeartbeats 40000000 in
theorem rm1 (l : Launch) (Z : State) (a0 : Array Value) (hw : ∀ d ∈ tables_1, d.before a0 Z = true) (ws : List Jvm.Cond) (b1 : Addr) (cl_b1 : Cell) (f_b1 : Nat → Int32) (z_b1 : Int32) (h0 : Heap) (n0 : Nat) (Z0 : n0 ≤ h0.size) (Ar_b1 : Arr Z h0 b1 cl_b1 .int) (S_b1 : cl_b1.slots.size = z_b1.toNatClampNeg) (M_b1 : ¬ z_b1 < 0) (H_b1 : ∀ i, i < z_b1.toNatClampNeg → cl_b1.slots[i]? = some (.int (f_b1 i))) :
    MetFree l (⟨"com/example/landrace_ledger/landraceledger/core/GenotypeEncoding", "isMissing", "([I)Z"⟩ : MethodName) (head1 (Jvm.Cond.code (⟨"com/example/landrace_ledger/landraceledger/core/GenotypeEncoding", "isMissing", "([I)Z"⟩ : MethodName) prog_1_method_6_code 5 (some .boolean) :: ws) ({ frames := 0, cells := 0, slots := 0, locals := 0 } : Room)) (fun a U => a = #[(.ref b1)] ∧ Z.Warmed39 U.vm ∧ U.heap = h0) (fun _ _ _ _ _ => True) (fun _ U o U' => ∃ v L, o = .returned v ∧ Q1 b1 cl_b1 f_b1 z_b1 h0 n0 v U'.heap L ∧ FrameEnd U o U' L ({ frames := 0, cells := 0, slots := 0, locals := 0 } : Room).cells ({ frames := 0, cells := 0, slots := 0, locals := 0 } : Room).slots) := by
  refine MetFree.of_bodySF (plainFor_of_name pn_1) hisR ?_
  intro p e s m args below meth c s₁ Bd hml0 hP hK
  obtain ⟨rfl, hZ, hh⟩ := hP
  have hx := Bd.exec
  have hby := Bd.bytes
  have hml : c.maxLocals = 5 := hml0
  have hown : s.vm.findClass "com/example/landrace_ledger/landraceledger/core/GenotypeEncoding" = some m.cls := findClass_of_methodNamed Bd.named
  have hnm := (name_of_methodNamed Bd.named Bd.method).1
  have X0 : Stand p l e ({ frames := 0, cells := 0, slots := 0, locals := 0 } : Room) s m #[(.ref b1)] below meth c s₁ [] 0 0 := Stand.of_body Bd
  have e0 : s₁.heap = h0 := by rw [← hh, Bd.state]; rfl
  have N0 := Fr.nil n0
  show own_Go p e below s (Q1 b1 cl_b1 f_b1 z_b1 h0 n0) ({ frames := 0, cells := 0, slots := 0, locals := 0 } : Room).cells ({ frames := 0, cells := 0, slots := 0, locals := 0 } : Room).slots (s₁.setTop (entryFrame m #[(.ref b1)] 5))
  refine own_go (b := s₁.setTop (mkF m 0 #[.val (.ref b1), .unset, .unset, .unset, .unset] [])) (fun t k => castTop (ef_1 m b1) k) ?_
  have J7 : ∀ (k : Nat) (T : State) (lc : List Loc), Stand p l e ({ frames := 0, cells := 0, slots := 0, locals := 0 } : Room) s m #[(.ref b1)] below meth c T lc 0 0 → Fr n0 lc → T.heap = h0 → ∀ (j : Int32) (sl4 : Slot), One sl4 → 0 ≤ j.toInt → j.toInt + k = z_b1.toInt → own_miss_0 f_b1 z_b1 = own_missA f_b1 k j.toNatClampNeg → own_Go p e below s (Q1 b1 cl_b1 f_b1 z_b1 h0 n0) ({ frames := 0, cells := 0, slots := 0, locals := 0 } : Room).cells ({ frames := 0, cells := 0, slots := 0, locals := 0 } : Room).slots (T.setTop (mkF m 7 #[.val (.ref b1), .val (.ref b1), .val (.int z_b1), .val (.int j), sl4] [])) := by
    intro k
    induction k with
    | zero =>
      intro T lc X N eT j sl4 o4 g1 g2 hv
      have hc9_1 : ¬ (j < z_b1) := by rw [Int32.lt_iff_toInt_lt]; omega
      refine own_end X Bd.notSynchronized (v := some (.int (1 : Int32))) (fun h => by rw [Bd.returns] at h; cases h) (fun fs hr => ?_) eT ?_ (by decide) (by decide)
      · show Steps p.tables e below (T.setTop (mkF m 7 #[.val (.ref b1), .val (.ref b1), .val (.int z_b1), .val (.int j), sl4] [])) _
        refine XS.iloadN X.here hx rfl (hb hby d1_7) rfl ?_
        show Steps p.tables e below (T.setTop (mkF m 8 #[.val (.ref b1), .val (.ref b1), .val (.int z_b1), .val (.int j), sl4] [(.int j)])) _
        refine XS.iloadN X.here hx rfl (hb hby d1_8) rfl ?_
        show Steps p.tables e below (T.setTop (mkF m 9 #[.val (.ref b1), .val (.ref b1), .val (.int z_b1), .val (.int j), sl4] [(.int z_b1), (.int j)])) _
        refine XS.icmpYes X.here hx rfl (pc0 := 9) (pc' := 31) rfl (hb hby d1_9) rfl (flt hc9_1).2.1 (by decide) (by decide) ?_
        show Steps p.tables e below (T.setTop (mkF m 31 #[.val (.ref b1), .val (.ref b1), .val (.int z_b1), .val (.int j), sl4] [])) _
        refine XS.iconst X.here hx rfl (hb hby d1_31) ?_
        show Steps p.tables e below (T.setTop (mkF m 32 #[.val (.ref b1), .val (.ref b1), .val (.int z_b1), .val (.int j), sl4] [(.int (1 : Int32))])) _
        exact retN X hx (t := .boolean) Bd.returns (by simp) (hb hby d1_32) hr
      · exact ⟨by rw [hv, own_missA], N, rfl⟩
    | succ k ih =>
      intro T lc X N eT j sl4 o4 g1 g2 hv
      have g3 : j.toInt < z_b1.toInt := by omega
      have hc9_2 : j < z_b1 := Int32.lt_iff_toInt_lt.mpr g3
      have hi3 : ¬ j < 0 ∧ j.toNatClampNeg < z_b1.toNatClampNeg := own_ix g1 g3
      refine own_go (b := T.setTop (mkF m 20 #[.val (.ref b1), .val (.ref b1), .val (.int z_b1), .val (.int j), .val (.int (f_b1 j.toNatClampNeg))] [(.int (-1 : Int32)), (.int (f_b1 j.toNatClampNeg))])) (fun t k => ?_) ?_
      · show Steps p.tables e below (T.setTop (mkF m 7 #[.val (.ref b1), .val (.ref b1), .val (.int z_b1), .val (.int j), sl4] [])) _
        refine XS.iloadN X.here hx rfl (hb hby d1_7) rfl ?_
        show Steps p.tables e below (T.setTop (mkF m 8 #[.val (.ref b1), .val (.ref b1), .val (.int z_b1), .val (.int j), sl4] [(.int j)])) _
        refine XS.iloadN X.here hx rfl (hb hby d1_8) rfl ?_
        show Steps p.tables e below (T.setTop (mkF m 9 #[.val (.ref b1), .val (.ref b1), .val (.int z_b1), .val (.int j), sl4] [(.int z_b1), (.int j)])) _
        refine XS.icmpNo X.here hx rfl (hb hby d1_9) rfl (tlt hc9_2).2.1 ?_
        show Steps p.tables e below (T.setTop (mkF m 12 #[.val (.ref b1), .val (.ref b1), .val (.int z_b1), .val (.int j), sl4] [])) _
        refine XS.aloadN X.here hx rfl (hb hby d1_12) rfl rfl ?_
        show Steps p.tables e below (T.setTop (mkF m 13 #[.val (.ref b1), .val (.ref b1), .val (.int z_b1), .val (.int j), sl4] [(.ref b1)])) _
        refine XS.iloadN X.here hx rfl (hb hby d1_13) rfl ?_
        show Steps p.tables e below (T.setTop (mkF m 14 #[.val (.ref b1), .val (.ref b1), .val (.int z_b1), .val (.int j), sl4] [(.int j), (.ref b1)])) _
        refine X.iaload hx (j := j) (v := (.int (f_b1 j.toNatClampNeg))) (by rw [eT]; exact Ar_b1.1) (State.isArrayOf_alike hZ.alike Ar_b1.2.1) Ar_b1.2.2 (own_hin S_b1 hi3) (H_b1 _ hi3.2) (g := (mkF m 14 #[.val (.ref b1), .val (.ref b1), .val (.int z_b1), .val (.int j), sl4] [(.int j), (.ref b1)])) rfl rfl (hb hby d1_14) _ ?_
        show Steps p.tables e below (T.setTop (mkF m 15 #[.val (.ref b1), .val (.ref b1), .val (.int z_b1), .val (.int j), sl4] [(.int (f_b1 j.toNatClampNeg))])) _
        refine XS.istoreS X.here hx rfl (hb hby d1_15) rfl rfl o4 ?_
        show Steps p.tables e below (T.setTop (mkF m 17 #[.val (.ref b1), .val (.ref b1), .val (.int z_b1), .val (.int j), .val (.int (f_b1 j.toNatClampNeg))] [])) _
        refine XS.iload X.here hx rfl (hb hby d1_17) rfl ?_
        show Steps p.tables e below (T.setTop (mkF m 19 #[.val (.ref b1), .val (.ref b1), .val (.int z_b1), .val (.int j), .val (.int (f_b1 j.toNatClampNeg))] [(.int (f_b1 j.toNatClampNeg))])) _
        refine XS.iconst X.here hx rfl (hb hby d1_19) ?_
        show Steps p.tables e below (T.setTop (mkF m 20 #[.val (.ref b1), .val (.ref b1), .val (.int z_b1), .val (.int j), .val (.int (f_b1 j.toNatClampNeg))] [(.int (-1 : Int32)), (.int (f_b1 j.toNatClampNeg))])) _
        exact k
      by_cases hc20 : (f_b1 j.toNatClampNeg) = (-1 : Int32)
      · refine own_go (b := T.setTop (mkF m 7 #[.val (.ref b1), .val (.ref b1), .val (.int z_b1), .val (.int (j + (1 : Int32))), .val (.int (f_b1 j.toNatClampNeg))] [])) (fun t k => ?_) ?_
        · show Steps p.tables e below (T.setTop (mkF m 20 #[.val (.ref b1), .val (.ref b1), .val (.int z_b1), .val (.int j), .val (.int (f_b1 j.toNatClampNeg))] [(.int (-1 : Int32)), (.int (f_b1 j.toNatClampNeg))])) _
          refine XS.icmpYes X.here hx rfl (pc0 := 20) (pc' := 25) rfl (hb hby d1_20) rfl (teq hc20).1 (by decide) (by decide) ?_
          show Steps p.tables e below (T.setTop (mkF m 25 #[.val (.ref b1), .val (.ref b1), .val (.int z_b1), .val (.int j), .val (.int (f_b1 j.toNatClampNeg))] [])) _
          refine XS.iinc X.here hx rfl (hb hby d1_25) rfl (l' := #[.val (.ref b1), .val (.ref b1), .val (.int z_b1), .val (.int (j + (1 : Int32))), .val (.int (f_b1 j.toNatClampNeg))]) rfl ?_
          show Steps p.tables e below (T.setTop (mkF m 28 #[.val (.ref b1), .val (.ref b1), .val (.int z_b1), .val (.int (j + (1 : Int32))), .val (.int (f_b1 j.toNatClampNeg))] [])) _
          refine XS.goto X.here hx rfl (pc0 := 28) (pc' := 7) rfl (hb hby d1_28) (by decide) (by decide) ?_
          show Steps p.tables e below (T.setTop (mkF m 7 #[.val (.ref b1), .val (.ref b1), .val (.int z_b1), .val (.int (j + (1 : Int32))), .val (.int (f_b1 j.toNatClampNeg))] [])) _
          exact k
        exact ih T _ X N eT _ _ (One.val rfl) (by rw [(own_succ g1 g3).1]; omega) (by rw [(own_succ g1 g3).1]; omega) (by rw [hv, own_missA, if_pos hc20, (own_succ g1 g3).2])
      · refine own_end X Bd.notSynchronized (v := some (.int (0 : Int32))) (fun h => by rw [Bd.returns] at h; cases h) (fun fs hr => ?_) eT ?_ (by decide) (by decide)
        · show Steps p.tables e below (T.setTop (mkF m 20 #[.val (.ref b1), .val (.ref b1), .val (.int z_b1), .val (.int j), .val (.int (f_b1 j.toNatClampNeg))] [(.int (-1 : Int32)), (.int (f_b1 j.toNatClampNeg))])) _
          refine XS.icmpNo X.here hx rfl (hb hby d1_20) rfl (feq hc20).1 ?_
          show Steps p.tables e below (T.setTop (mkF m 23 #[.val (.ref b1), .val (.ref b1), .val (.int z_b1), .val (.int j), .val (.int (f_b1 j.toNatClampNeg))] [])) _
          refine XS.iconst X.here hx rfl (hb hby d1_23) ?_
          show Steps p.tables e below (T.setTop (mkF m 24 #[.val (.ref b1), .val (.ref b1), .val (.int z_b1), .val (.int j), .val (.int (f_b1 j.toNatClampNeg))] [(.int (0 : Int32))])) _
          exact retN X hx (t := .boolean) Bd.returns (by simp) (hb hby d1_24) hr
        · exact ⟨by rw [hv, own_missA, if_neg hc20], N, rfl⟩
  refine own_go (b := s₁.setTop (mkF m 7 #[.val (.ref b1), .val (.ref b1), .val (.int z_b1), .val (.int (0 : Int32)), .unset] [])) (fun t k => ?_) ?_
  · show Steps p.tables e below (s₁.setTop (mkF m 0 #[.val (.ref b1), .unset, .unset, .unset, .unset] [])) _
    refine XS.aloadN X0.here hx rfl (hb hby d1_0) rfl rfl ?_
    show Steps p.tables e below (s₁.setTop (mkF m 1 #[.val (.ref b1), .unset, .unset, .unset, .unset] [(.ref b1)])) _
    refine XS.astoreN X0.here hx rfl (hb hby d1_1) rfl rfl (l' := #[.val (.ref b1), .val (.ref b1), .unset, .unset, .unset]) rfl ?_
    show Steps p.tables e below (s₁.setTop (mkF m 2 #[.val (.ref b1), .val (.ref b1), .unset, .unset, .unset] [])) _
    refine XS.aloadN X0.here hx rfl (hb hby d1_2) rfl rfl ?_
    show Steps p.tables e below (s₁.setTop (mkF m 3 #[.val (.ref b1), .val (.ref b1), .unset, .unset, .unset] [(.ref b1)])) _
    refine X0.arraylength hx (cell := cl_b1) (by rw [e0]; exact Ar_b1.1) (State.isArrayOf_alike hZ.alike Ar_b1.2.1) (g := (mkF m 3 #[.val (.ref b1), .val (.ref b1), .unset, .unset, .unset] [(.ref b1)])) rfl (rest := []) rfl (hb hby d1_3) _ ?_
    rw [len_of S_b1 M_b1]
    show Steps p.tables e below (s₁.setTop (mkF m 4 #[.val (.ref b1), .val (.ref b1), .unset, .unset, .unset] [(.int z_b1)])) _
    refine XS.istoreN X0.here hx rfl (hb hby d1_4) rfl (l' := #[.val (.ref b1), .val (.ref b1), .val (.int z_b1), .unset, .unset]) rfl ?_
    show Steps p.tables e below (s₁.setTop (mkF m 5 #[.val (.ref b1), .val (.ref b1), .val (.int z_b1), .unset, .unset] [])) _
    refine XS.iconst X0.here hx rfl (hb hby d1_5) ?_
    show Steps p.tables e below (s₁.setTop (mkF m 6 #[.val (.ref b1), .val (.ref b1), .val (.int z_b1), .unset, .unset] [(.int (0 : Int32))])) _
    refine XS.istoreN X0.here hx rfl (hb hby d1_6) rfl (l' := #[.val (.ref b1), .val (.ref b1), .val (.int z_b1), .val (.int (0 : Int32)), .unset]) rfl ?_
    show Steps p.tables e below (s₁.setTop (mkF m 7 #[.val (.ref b1), .val (.ref b1), .val (.int z_b1), .val (.int (0 : Int32)), .unset] [])) _
    exact k
  exact J7 z_b1.toNatClampNeg s₁ _ X0 N0 e0 _ _ One.u (by decide) (by show (0 : Int) + _ = _; have := nat_of M_b1; omega) rfl
theorem pd__28_5bI_29Z : parseMethodDescriptor "([I)Z" = some ⟨[(.array .int)], some .boolean⟩ := by decide +kernel
theorem pn_0 : plainName "com/example/landrace_ledger/landraceledger/core/GenotypeEncodingIsMissingPinLaw" = true := by first | (simp [plainName, overriddenIn]; done) | decide +kernel
theorem ef_0 (m : MethodId) (x0 : Int32) (x1 : Int32) (x2 : Int32) (x3 : Int32) (x4 : Int32) : entryFrame m #[(.int x0), (.int x1), (.int x2), (.int x3), (.int x4)] maxLocals = mkF m 0 #[.val (.int x0), .val (.int x1), .val (.int x2), .val (.int x3), .val (.int x4), .unset, .unset, .unset, .unset, .unset, .unset, .unset] [] := by first | (simp [entryFrame, mkF, argsToLocals, Value.category, maxLocals]; done) | rfl
def Q0 (p1 : Int32) (p2 : Int32) (p3 : Int32) (p4 : Int32) (p5 : Int32) (h0 : Heap) (n0 : Nat) (v : Option Value) (h : Heap) (L : List Loc) : Prop := v = some (.int 1) ∧ Fr n0 L
set_option maxRecDepth 65536 in
set_option maxHeartbeats 40000000 in
theorem rm0 (l : Launch) (Z : State) (a0 : Array Value) (hw : ∀ d ∈ tables_1, d.before a0 Z = true) (ws : List Jvm.Cond) (p1 : Int32) (p2 : Int32) (p3 : Int32) (p4 : Int32) (p5 : Int32) (h0 : Heap) (n0 : Nat) (Z0 : n0 ≤ h0.size)  :
    MetFree l x (head1 (Jvm.Cond.code x code maxLocals ret :: ws) room_1) (fun a U => a = #[(.int p1), (.int p2), (.int p3), (.int p4), (.int p5)] ∧ Z.Warmed39 U.vm ∧ U.heap = h0) (fun _ _ _ _ _ => True) (fun _ U o U' => ∃ v L, o = .returned v ∧ Q0 p1 p2 p3 p4 p5 h0 n0 v U'.heap L ∧ FrameEnd U o U' L 16 128) := by
  refine MetFree.of_bodySF (plainFor_of_name pn_0) hisR ?_
  intro p e s m args below meth c s₁ Bd hml0 hP hK
  obtain ⟨rfl, hZ, hh⟩ := hP
  have hx := Bd.exec
  have hby := Bd.bytes
  have hml : c.maxLocals = 12 := hml0
  have hown : s.vm.findClass "com/example/landrace_ledger/landraceledger/core/GenotypeEncodingIsMissingPinLaw" = some m.cls := findClass_of_methodNamed Bd.named
  have hnm := (name_of_methodNamed Bd.named Bd.method).1
  have X0 : Stand p l e room_1 s m #[(.int p1), (.int p2), (.int p3), (.int p4), (.int p5)] below meth c s₁ [] 0 0 := Stand.of_body Bd
  have e0 : s₁.heap = h0 := by rw [← hh, Bd.state]; rfl
  have N0 := Fr.nil n0
  show own_Go p e below s (Q0 p1 p2 p3 p4 p5 h0 n0) 16 128 (s₁.setTop (entryFrame m #[(.int p1), (.int p2), (.int p3), (.int p4), (.int p5)] maxLocals))
  refine own_go (b := s₁.setTop (mkF m 0 #[.val (.int p1), .val (.int p2), .val (.int p3), .val (.int p4), .val (.int p5), .unset, .unset, .unset, .unset, .unset, .unset, .unset] [])) (fun t k => castTop (ef_0 m p1 p2 p3 p4 p5) k) ?_
  have J47 : ∀ (ea eb ec : Int32), own_Go p e below s (Q0 p1 p2 p3 p4 p5 h0 n0) 16 128 (s₁.setTop (mkF m 47 #[.val (.int p1), .val (.int p2), .val (.int p3), .val (.int p4), .val (.int p5), .val (.int (p1 &&& (3 : Int32))), .val (.int ea), .val (.int eb), .val (.int ec), .unset, .unset, .unset] [])) := by
    intro ea eb ec
    obtain ⟨nn, hnn⟩ : ∃ z : Int32, z = (p1 &&& (3 : Int32)) := ⟨_, rfl⟩
    rw [← hnn]
    rcases (show nn = (0 : Int32) ∨ nn = (1 : Int32) ∨ nn = (2 : Int32) ∨ nn = (3 : Int32) from by rw [hnn]; exact own_and3 p1) with rfl | rfl | rfl | rfl
    · obtain ⟨T1, h1, k1, X1, e1, E1, A1, B1, st1⟩ := newPE X0 hx hZ (hw _ (List.mem_of_getElem? (i := 0) rfl)) e0 (g := (mkF m 49 #[.val (.int p1), .val (.int p2), .val (.int p3), .val (.int p4), .val (.int p5), .val (.int (0 : Int32)), .val (.int ea), .val (.int eb), .val (.int ec), .unset, .unset, .unset] [(.int (0 : Int32))])) rfl (hb hby at_49) rfl (by decide) (cap := 0) (by decide) (by decide) (by decide) (by decide) (ad := "[I") (by first | rfl | decide +kernel)
      obtain ⟨a1, ga1⟩ : ∃ z, z = h0.size := ⟨_, rfl⟩
      rw [← ga1] at A1 B1 st1
      have lo1 : n0 ≤ a1 := Nat.le_trans Z0 (Nat.le_of_eq ga1.symm)
      have Z1 : n0 ≤ h1.size := Nat.le_trans Z0 E1.1
      have V2 : Arv Z h1 a1 k1 .int (0 : Int32) [] (.int (0 : Int32)) := (Arv.new A1 (by decide)).pad (pad_rep [] (.int (0 : Int32)) 0)
      have hc55_3 : ¬ ((0 : Int32) < (0 : Int32)) := (by decide)
      have hc67_4 : ¬ ((1 : Int32) < (0 : Int32)) := (by decide)
      have hc79_5 : ¬ ((2 : Int32) < (0 : Int32)) := (by decide)
      have hc91_6 : (0 : Int32) < (1 : Int32) := (by decide)
      have hc103_7 : (0 : Int32) < (2 : Int32) := (by decide)
      have hc115_8 : (0 : Int32) < (3 : Int32) := (by decide)
      obtain ⟨cl9, Ar9, q9, S9, M9, H9, U9⟩ := id V2
      obtain ⟨_, _, ⟨T10, uL10, uk10, un10⟩, -, X10, ⟨Lc10, hQ10, ul10, uy10, uz10⟩, st10⟩ := Jvm.LawKit.callS X1 hx (y := (⟨"com/example/landrace_ledger/landraceledger/core/GenotypeEncoding", "isMissing", "([I)Z"⟩ : MethodName)) hown (mvT hZ (hw _ (List.mem_of_getElem? (i := 1) rfl))) (mvT hZ (hw _ (List.mem_of_getElem? (i := 2) rfl))) (mvT hZ (hw _ (List.mem_of_getElem? (i := 3) rfl))) (mvT hZ (hw _ (List.mem_of_getElem? (i := 4) rfl))) (by decide) (backOf (W := 0) (rm1 l Z a0 hw [] a1 cl9 (fun i => ([] : List Int32).getD i 0) (0 : Int32) h1 n0 Z1 Ar9 S9 M9 (own_has (xs := ([] : List Int32)) H9 S9)) hZ (hw _ (List.mem_of_getElem? (i := 4) rfl)) (hw _ (List.mem_of_getElem? (i := 3) rfl)) (by decide) (by decide)) (g := (mkF m 133 #[.val (.int p1), .val (.int p2), .val (.int p3), .val (.int p4), .val (.int p5), .val (.int (0 : Int32)), .val (.int ea), .val (.int eb), .val (.int ec), .val (.ref a1), .val (.int (1 : Int32)), .unset] [(.ref a1)])) rfl (by rw [hml]; rfl) (argsL := [(.ref a1)]) (rest := []) (lenOf pd__28_5bI_29Z rfl) rfl (by show 2 * 0 + _ ≤ _; exact Nat.le_of_eq rfl) (hb hby at_133) (fun _ _ => ⟨rfl, e1, (by decide : 1 + 0 ≤ _), (by decide : 0 + 0 ≤ _)⟩)
      dsimp only [Pt.U, Pt.locs, Pt.cells, Pt.slots] at X10 ul10 uy10 uz10 st10 hQ10
      subst ul10 uy10 uz10
      obtain ⟨rfl, Nq10, e10⟩ := hQ10
      have N10 := Fr.app N0 Nq10
      have hc142_11 : (own_miss_0 (fun i => ([] : List Int32).getD i 0) (0 : Int32)) = (1 : Int32) := own_m0 _
      refine own_end X10 Bd.notSynchronized (v := some (.int (1 : Int32))) (fun h => by rw [Bd.returns] at h; cases h) (fun fs hr => ?_) e10 ?_ (by decide) (by decide)
      · show Steps p.tables e below (s₁.setTop (mkF m 47 #[.val (.int p1), .val (.int p2), .val (.int p3), .val (.int p4), .val (.int p5), .val (.int (0 : Int32)), .val (.int ea), .val (.int eb), .val (.int ec), .unset, .unset, .unset] [])) _
        refine XS.iload X0.here hx rfl (hb hby at_47) rfl ?_
        show Steps p.tables e below (s₁.setTop (mkF m 49 #[.val (.int p1), .val (.int p2), .val (.int p3), .val (.int p4), .val (.int p5), .val (.int (0 : Int32)), .val (.int ea), .val (.int eb), .val (.int ec), .unset, .unset, .unset] [(.int (0 : Int32))])) _
        refine st1 _ ?_
        show Steps p.tables e below (T1.setTop (mkF m 51 #[.val (.int p1), .val (.int p2), .val (.int p3), .val (.int p4), .val (.int p5), .val (.int (0 : Int32)), .val (.int ea), .val (.int eb), .val (.int ec), .unset, .unset, .unset] [(.ref a1)])) _
        refine XS.astore X1.here hx rfl (hb hby at_51) rfl rfl (l' := #[.val (.int p1), .val (.int p2), .val (.int p3), .val (.int p4), .val (.int p5), .val (.int (0 : Int32)), .val (.int ea), .val (.int eb), .val (.int ec), .val (.ref a1), .unset, .unset]) rfl ?_
        show Steps p.tables e below (T1.setTop (mkF m 53 #[.val (.int p1), .val (.int p2), .val (.int p3), .val (.int p4), .val (.int p5), .val (.int (0 : Int32)), .val (.int ea), .val (.int eb), .val (.int ec), .val (.ref a1), .unset, .unset] [])) _
        refine XS.iload X1.here hx rfl (hb hby at_53) rfl ?_
        show Steps p.tables e below (T1.setTop (mkF m 55 #[.val (.int p1), .val (.int p2), .val (.int p3), .val (.int p4), .val (.int p5), .val (.int (0 : Int32)), .val (.int ea), .val (.int eb), .val (.int ec), .val (.ref a1), .unset, .unset] [(.int (0 : Int32))])) _
        refine XS.ifYes X1.here hx rfl (pc0 := 55) (pc' := 64) rfl (hb hby at_55) rfl ((if0 _ _).trans (flt hc55_3).2.2.2) (by decide) (by decide) ?_
        show Steps p.tables e below (T1.setTop (mkF m 64 #[.val (.int p1), .val (.int p2), .val (.int p3), .val (.int p4), .val (.int p5), .val (.int (0 : Int32)), .val (.int ea), .val (.int eb), .val (.int ec), .val (.ref a1), .unset, .unset] [])) _
        refine XS.iload X1.here hx rfl (hb hby at_64) rfl ?_
        show Steps p.tables e below (T1.setTop (mkF m 66 #[.val (.int p1), .val (.int p2), .val (.int p3), .val (.int p4), .val (.int p5), .val (.int (0 : Int32)), .val (.int ea), .val (.int eb), .val (.int ec), .val (.ref a1), .unset, .unset] [(.int (0 : Int32))])) _
        refine XS.iconst X1.here hx rfl (hb hby at_66) ?_
        show Steps p.tables e below (T1.setTop (mkF m 67 #[.val (.int p1), .val (.int p2), .val (.int p3), .val (.int p4), .val (.int p5), .val (.int (0 : Int32)), .val (.int ea), .val (.int eb), .val (.int ec), .val (.ref a1), .unset, .unset] [(.int (1 : Int32)), (.int (0 : Int32))])) _
        refine XS.icmpYes X1.here hx rfl (pc0 := 67) (pc' := 76) rfl (hb hby at_67) rfl (flt hc67_4).2.2.2 (by decide) (by decide) ?_
        show Steps p.tables e below (T1.setTop (mkF m 76 #[.val (.int p1), .val (.int p2), .val (.int p3), .val (.int p4), .val (.int p5), .val (.int (0 : Int32)), .val (.int ea), .val (.int eb), .val (.int ec), .val (.ref a1), .unset, .unset] [])) _
        refine XS.iload X1.here hx rfl (hb hby at_76) rfl ?_
        show Steps p.tables e below (T1.setTop (mkF m 78 #[.val (.int p1), .val (.int p2), .val (.int p3), .val (.int p4), .val (.int p5), .val (.int (0 : Int32)), .val (.int ea), .val (.int eb), .val (.int ec), .val (.ref a1), .unset, .unset] [(.int (0 : Int32))])) _
        refine XS.iconst X1.here hx rfl (hb hby at_78) ?_
        show Steps p.tables e below (T1.setTop (mkF m 79 #[.val (.int p1), .val (.int p2), .val (.int p3), .val (.int p4), .val (.int p5), .val (.int (0 : Int32)), .val (.int ea), .val (.int eb), .val (.int ec), .val (.ref a1), .unset, .unset] [(.int (2 : Int32)), (.int (0 : Int32))])) _
        refine XS.icmpYes X1.here hx rfl (pc0 := 79) (pc' := 88) rfl (hb hby at_79) rfl (flt hc79_5).2.2.2 (by decide) (by decide) ?_
        show Steps p.tables e below (T1.setTop (mkF m 88 #[.val (.int p1), .val (.int p2), .val (.int p3), .val (.int p4), .val (.int p5), .val (.int (0 : Int32)), .val (.int ea), .val (.int eb), .val (.int ec), .val (.ref a1), .unset, .unset] [])) _
        refine XS.iload X1.here hx rfl (hb hby at_88) rfl ?_
        show Steps p.tables e below (T1.setTop (mkF m 90 #[.val (.int p1), .val (.int p2), .val (.int p3), .val (.int p4), .val (.int p5), .val (.int (0 : Int32)), .val (.int ea), .val (.int eb), .val (.int ec), .val (.ref a1), .unset, .unset] [(.int (0 : Int32))])) _
        refine XS.iconst X1.here hx rfl (hb hby at_90) ?_
        show Steps p.tables e below (T1.setTop (mkF m 91 #[.val (.int p1), .val (.int p2), .val (.int p3), .val (.int p4), .val (.int p5), .val (.int (0 : Int32)), .val (.int ea), .val (.int eb), .val (.int ec), .val (.ref a1), .unset, .unset] [(.int (1 : Int32)), (.int (0 : Int32))])) _
        refine XS.icmpYes X1.here hx rfl (pc0 := 91) (pc' := 100) rfl (hb hby at_91) rfl (tlt hc91_6).1 (by decide) (by decide) ?_
        show Steps p.tables e below (T1.setTop (mkF m 100 #[.val (.int p1), .val (.int p2), .val (.int p3), .val (.int p4), .val (.int p5), .val (.int (0 : Int32)), .val (.int ea), .val (.int eb), .val (.int ec), .val (.ref a1), .unset, .unset] [])) _
        refine XS.iload X1.here hx rfl (hb hby at_100) rfl ?_
        show Steps p.tables e below (T1.setTop (mkF m 102 #[.val (.int p1), .val (.int p2), .val (.int p3), .val (.int p4), .val (.int p5), .val (.int (0 : Int32)), .val (.int ea), .val (.int eb), .val (.int ec), .val (.ref a1), .unset, .unset] [(.int (0 : Int32))])) _
        refine XS.iconst X1.here hx rfl (hb hby at_102) ?_
        show Steps p.tables e below (T1.setTop (mkF m 103 #[.val (.int p1), .val (.int p2), .val (.int p3), .val (.int p4), .val (.int p5), .val (.int (0 : Int32)), .val (.int ea), .val (.int eb), .val (.int ec), .val (.ref a1), .unset, .unset] [(.int (2 : Int32)), (.int (0 : Int32))])) _
        refine XS.icmpYes X1.here hx rfl (pc0 := 103) (pc' := 112) rfl (hb hby at_103) rfl (tlt hc103_7).1 (by decide) (by decide) ?_
        show Steps p.tables e below (T1.setTop (mkF m 112 #[.val (.int p1), .val (.int p2), .val (.int p3), .val (.int p4), .val (.int p5), .val (.int (0 : Int32)), .val (.int ea), .val (.int eb), .val (.int ec), .val (.ref a1), .unset, .unset] [])) _
        refine XS.iload X1.here hx rfl (hb hby at_112) rfl ?_
        show Steps p.tables e below (T1.setTop (mkF m 114 #[.val (.int p1), .val (.int p2), .val (.int p3), .val (.int p4), .val (.int p5), .val (.int (0 : Int32)), .val (.int ea), .val (.int eb), .val (.int ec), .val (.ref a1), .unset, .unset] [(.int (0 : Int32))])) _
        refine XS.iconst X1.here hx rfl (hb hby at_114) ?_
        show Steps p.tables e below (T1.setTop (mkF m 115 #[.val (.int p1), .val (.int p2), .val (.int p3), .val (.int p4), .val (.int p5), .val (.int (0 : Int32)), .val (.int ea), .val (.int eb), .val (.int ec), .val (.ref a1), .unset, .unset] [(.int (3 : Int32)), (.int (0 : Int32))])) _
        refine XS.icmpYes X1.here hx rfl (pc0 := 115) (pc' := 124) rfl (hb hby at_115) rfl (tlt hc115_8).1 (by decide) (by decide) ?_
        show Steps p.tables e below (T1.setTop (mkF m 124 #[.val (.int p1), .val (.int p2), .val (.int p3), .val (.int p4), .val (.int p5), .val (.int (0 : Int32)), .val (.int ea), .val (.int eb), .val (.int ec), .val (.ref a1), .unset, .unset] [])) _
        refine XS.iconst X1.here hx rfl (hb hby at_124) ?_
        show Steps p.tables e below (T1.setTop (mkF m 125 #[.val (.int p1), .val (.int p2), .val (.int p3), .val (.int p4), .val (.int p5), .val (.int (0 : Int32)), .val (.int ea), .val (.int eb), .val (.int ec), .val (.ref a1), .unset, .unset] [(.int (1 : Int32))])) _
        refine XS.goto X1.here hx rfl (pc0 := 125) (pc' := 129) rfl (hb hby at_125) (by decide) (by decide) ?_
        show Steps p.tables e below (T1.setTop (mkF m 129 #[.val (.int p1), .val (.int p2), .val (.int p3), .val (.int p4), .val (.int p5), .val (.int (0 : Int32)), .val (.int ea), .val (.int eb), .val (.int ec), .val (.ref a1), .unset, .unset] [(.int (1 : Int32))])) _
        refine XS.istore X1.here hx rfl (hb hby at_129) rfl (l' := #[.val (.int p1), .val (.int p2), .val (.int p3), .val (.int p4), .val (.int p5), .val (.int (0 : Int32)), .val (.int ea), .val (.int eb), .val (.int ec), .val (.ref a1), .val (.int (1 : Int32)), .unset]) rfl ?_
        show Steps p.tables e below (T1.setTop (mkF m 131 #[.val (.int p1), .val (.int p2), .val (.int p3), .val (.int p4), .val (.int p5), .val (.int (0 : Int32)), .val (.int ea), .val (.int eb), .val (.int ec), .val (.ref a1), .val (.int (1 : Int32)), .unset] [])) _
        refine XS.aload X1.here hx rfl (hb hby at_131) rfl rfl ?_
        show Steps p.tables e below (T1.setTop (mkF m 133 #[.val (.int p1), .val (.int p2), .val (.int p3), .val (.int p4), .val (.int p5), .val (.int (0 : Int32)), .val (.int ea), .val (.int eb), .val (.int ec), .val (.ref a1), .val (.int (1 : Int32)), .unset] [(.ref a1)])) _
        refine st10 _ ?_
        show Steps p.tables e below (T10.setTop (mkF m 136 #[.val (.int p1), .val (.int p2), .val (.int p3), .val (.int p4), .val (.int p5), .val (.int (0 : Int32)), .val (.int ea), .val (.int eb), .val (.int ec), .val (.ref a1), .val (.int (1 : Int32)), .unset] [(.int (own_miss_0 (fun i => ([] : List Int32).getD i 0) (0 : Int32)))])) _
        refine XS.istore X10.here hx rfl (hb hby at_136) rfl (l' := #[.val (.int p1), .val (.int p2), .val (.int p3), .val (.int p4), .val (.int p5), .val (.int (0 : Int32)), .val (.int ea), .val (.int eb), .val (.int ec), .val (.ref a1), .val (.int (1 : Int32)), .val (.int (own_miss_0 (fun i => ([] : List Int32).getD i 0) (0 : Int32)))]) rfl ?_
        show Steps p.tables e below (T10.setTop (mkF m 138 #[.val (.int p1), .val (.int p2), .val (.int p3), .val (.int p4), .val (.int p5), .val (.int (0 : Int32)), .val (.int ea), .val (.int eb), .val (.int ec), .val (.ref a1), .val (.int (1 : Int32)), .val (.int (own_miss_0 (fun i => ([] : List Int32).getD i 0) (0 : Int32)))] [])) _
        refine XS.iload X10.here hx rfl (hb hby at_138) rfl ?_
        show Steps p.tables e below (T10.setTop (mkF m 140 #[.val (.int p1), .val (.int p2), .val (.int p3), .val (.int p4), .val (.int p5), .val (.int (0 : Int32)), .val (.int ea), .val (.int eb), .val (.int ec), .val (.ref a1), .val (.int (1 : Int32)), .val (.int (own_miss_0 (fun i => ([] : List Int32).getD i 0) (0 : Int32)))] [(.int (own_miss_0 (fun i => ([] : List Int32).getD i 0) (0 : Int32)))])) _
        refine XS.iload X10.here hx rfl (hb hby at_140) rfl ?_
        show Steps p.tables e below (T10.setTop (mkF m 142 #[.val (.int p1), .val (.int p2), .val (.int p3), .val (.int p4), .val (.int p5), .val (.int (0 : Int32)), .val (.int ea), .val (.int eb), .val (.int ec), .val (.ref a1), .val (.int (1 : Int32)), .val (.int (own_miss_0 (fun i => ([] : List Int32).getD i 0) (0 : Int32)))] [(.int (1 : Int32)), (.int (own_miss_0 (fun i => ([] : List Int32).getD i 0) (0 : Int32)))])) _
        refine XS.icmpNo X10.here hx rfl (hb hby at_142) rfl (teq hc142_11).2 ?_
        show Steps p.tables e below (T10.setTop (mkF m 145 #[.val (.int p1), .val (.int p2), .val (.int p3), .val (.int p4), .val (.int p5), .val (.int (0 : Int32)), .val (.int ea), .val (.int eb), .val (.int ec), .val (.ref a1), .val (.int (1 : Int32)), .val (.int (own_miss_0 (fun i => ([] : List Int32).getD i 0) (0 : Int32)))] [])) _
        refine XS.iconst X10.here hx rfl (hb hby at_145) ?_
        show Steps p.tables e below (T10.setTop (mkF m 146 #[.val (.int p1), .val (.int p2), .val (.int p3), .val (.int p4), .val (.int p5), .val (.int (0 : Int32)), .val (.int ea), .val (.int eb), .val (.int ec), .val (.ref a1), .val (.int (1 : Int32)), .val (.int (own_miss_0 (fun i => ([] : List Int32).getD i 0) (0 : Int32)))] [(.int (1 : Int32))])) _
        refine XS.goto X10.here hx rfl (pc0 := 146) (pc' := 150) rfl (hb hby at_146) (by decide) (by decide) ?_
        show Steps p.tables e below (T10.setTop (mkF m 150 #[.val (.int p1), .val (.int p2), .val (.int p3), .val (.int p4), .val (.int p5), .val (.int (0 : Int32)), .val (.int ea), .val (.int eb), .val (.int ec), .val (.ref a1), .val (.int (1 : Int32)), .val (.int (own_miss_0 (fun i => ([] : List Int32).getD i 0) (0 : Int32)))] [(.int (1 : Int32))])) _
        exact retN X10 hx (t := .boolean) Bd.returns (by simp) (hb hby at_150) hr
      · exact ⟨rfl, N10⟩
    · obtain ⟨T12, h12, k12, X12, e12, E12, A12, B12, st12⟩ := newPE X0 hx hZ (hw _ (List.mem_of_getElem? (i := 0) rfl)) e0 (g := (mkF m 49 #[.val (.int p1), .val (.int p2), .val (.int p3), .val (.int p4), .val (.int p5), .val (.int (1 : Int32)), .val (.int ea), .val (.int eb), .val (.int ec), .unset, .unset, .unset] [(.int (1 : Int32))])) rfl (hb hby at_49) rfl (by decide) (cap := 1) (by decide) (by decide) (by decide) (by decide) (ad := "[I") (by first | rfl | decide +kernel)
      obtain ⟨a12, ga12⟩ : ∃ z, z = h0.size := ⟨_, rfl⟩
      rw [← ga12] at A12 B12 st12
      have lo12 : n0 ≤ a12 := Nat.le_trans Z0 (Nat.le_of_eq ga12.symm)
      have Z12 : n0 ≤ h12.size := Nat.le_trans Z0 E12.1
      have V13 : Arv Z h12 a12 k12 .int (1 : Int32) [(.int (0 : Int32))] (.int (0 : Int32)) := (Arv.new A12 (by decide)).pad (pad_rep [] (.int (0 : Int32)) 1)
      have hc55_14 : (0 : Int32) < (1 : Int32) := (by decide)
      obtain ⟨cl15, Ar15, q15, S15, M15, H15, U15⟩ := id V13
      obtain ⟨T16, h16, X16, e16, W16, st16⟩ := stI X12 hx hZ e12 Ar15 (j := (0 : Int32)) (by rw [S15]; decide) (g := (mkF m 63 #[.val (.int p1), .val (.int p2), .val (.int p3), .val (.int p4), .val (.int p5), .val (.int (1 : Int32)), .val (.int ea), .val (.int eb), .val (.int ec), .val (.ref a12), .unset, .unset] [(.int ea), (.int (0 : Int32)), (.ref a12)])) rfl rfl (hb hby at_63)
      have N16 := Fr.snoc X16 N0 lo12
      have V17 : Arv Z h16 a12 k12 .int (1 : Int32) [(.int ea)] (.int (0 : Int32)) := Arv.set Ar15 q15 S15 M15 H15 U15 rfl W16 0 rfl (by show 0 < 1; decide)
      have E18 := B12.wr W16
      have Z16 : n0 ≤ h16.size := by rw [W16.size]; exact Z12
      have hc67_19 : ¬ ((1 : Int32) < (1 : Int32)) := (by decide)
      have hc79_20 : ¬ ((2 : Int32) < (1 : Int32)) := (by decide)
      have hc91_21 : ¬ ((1 : Int32) < (1 : Int32)) := (by decide)
      refine own_go (b := T16.setTop (mkF m 97 #[.val (.int p1), .val (.int p2), .val (.int p3), .val (.int p4), .val (.int p5), .val (.int (1 : Int32)), .val (.int ea), .val (.int eb), .val (.int ec), .val (.ref a12), .unset, .unset] [(.int (-1 : Int32)), (.int ea)])) (fun t k => ?_) ?_
      · show Steps p.tables e below (s₁.setTop (mkF m 47 #[.val (.int p1), .val (.int p2), .val (.int p3), .val (.int p4), .val (.int p5), .val (.int (1 : Int32)), .val (.int ea), .val (.int eb), .val (.int ec), .unset, .unset, .unset] [])) _
        refine XS.iload X0.here hx rfl (hb hby at_47) rfl ?_
        show Steps p.tables e below (s₁.setTop (mkF m 49 #[.val (.int p1), .val (.int p2), .val (.int p3), .val (.int p4), .val (.int p5), .val (.int (1 : Int32)), .val (.int ea), .val (.int eb), .val (.int ec), .unset, .unset, .unset] [(.int (1 : Int32))])) _
        refine st12 _ ?_
        show Steps p.tables e below (T12.setTop (mkF m 51 #[.val (.int p1), .val (.int p2), .val (.int p3), .val (.int p4), .val (.int p5), .val (.int (1 : Int32)), .val (.int ea), .val (.int eb), .val (.int ec), .unset, .unset, .unset] [(.ref a12)])) _
        refine XS.astore X12.here hx rfl (hb hby at_51) rfl rfl (l' := #[.val (.int p1), .val (.int p2), .val (.int p3), .val (.int p4), .val (.int p5), .val (.int (1 : Int32)), .val (.int ea), .val (.int eb), .val (.int ec), .val (.ref a12), .unset, .unset]) rfl ?_
        show Steps p.tables e below (T12.setTop (mkF m 53 #[.val (.int p1), .val (.int p2), .val (.int p3), .val (.int p4), .val (.int p5), .val (.int (1 : Int32)), .val (.int ea), .val (.int eb), .val (.int ec), .val (.ref a12), .unset, .unset] [])) _
        refine XS.iload X12.here hx rfl (hb hby at_53) rfl ?_
        show Steps p.tables e below (T12.setTop (mkF m 55 #[.val (.int p1), .val (.int p2), .val (.int p3), .val (.int p4), .val (.int p5), .val (.int (1 : Int32)), .val (.int ea), .val (.int eb), .val (.int ec), .val (.ref a12), .unset, .unset] [(.int (1 : Int32))])) _
        refine XS.ifNo X12.here hx rfl (hb hby at_55) rfl ((if0 _ _).trans (tlt hc55_14).2.2.2) ?_
        show Steps p.tables e below (T12.setTop (mkF m 58 #[.val (.int p1), .val (.int p2), .val (.int p3), .val (.int p4), .val (.int p5), .val (.int (1 : Int32)), .val (.int ea), .val (.int eb), .val (.int ec), .val (.ref a12), .unset, .unset] [])) _
        refine XS.aload X12.here hx rfl (hb hby at_58) rfl rfl ?_
        show Steps p.tables e below (T12.setTop (mkF m 60 #[.val (.int p1), .val (.int p2), .val (.int p3), .val (.int p4), .val (.int p5), .val (.int (1 : Int32)), .val (.int ea), .val (.int eb), .val (.int ec), .val (.ref a12), .unset, .unset] [(.ref a12)])) _
        refine XS.iconst X12.here hx rfl (hb hby at_60) ?_
        show Steps p.tables e below (T12.setTop (mkF m 61 #[.val (.int p1), .val (.int p2), .val (.int p3), .val (.int p4), .val (.int p5), .val (.int (1 : Int32)), .val (.int ea), .val (.int eb), .val (.int ec), .val (.ref a12), .unset, .unset] [(.int (0 : Int32)), (.ref a12)])) _
        refine XS.iload X12.here hx rfl (hb hby at_61) rfl ?_
        show Steps p.tables e below (T12.setTop (mkF m 63 #[.val (.int p1), .val (.int p2), .val (.int p3), .val (.int p4), .val (.int p5), .val (.int (1 : Int32)), .val (.int ea), .val (.int eb), .val (.int ec), .val (.ref a12), .unset, .unset] [(.int ea), (.int (0 : Int32)), (.ref a12)])) _
        refine st16 _ ?_
        show Steps p.tables e below (T16.setTop (mkF m 64 #[.val (.int p1), .val (.int p2), .val (.int p3), .val (.int p4), .val (.int p5), .val (.int (1 : Int32)), .val (.int ea), .val (.int eb), .val (.int ec), .val (.ref a12), .unset, .unset] [])) _
        refine XS.iload X16.here hx rfl (hb hby at_64) rfl ?_
        show Steps p.tables e below (T16.setTop (mkF m 66 #[.val (.int p1), .val (.int p2), .val (.int p3), .val (.int p4), .val (.int p5), .val (.int (1 : Int32)), .val (.int ea), .val (.int eb), .val (.int ec), .val (.ref a12), .unset, .unset] [(.int (1 : Int32))])) _
        refine XS.iconst X16.here hx rfl (hb hby at_66) ?_
        show Steps p.tables e below (T16.setTop (mkF m 67 #[.val (.int p1), .val (.int p2), .val (.int p3), .val (.int p4), .val (.int p5), .val (.int (1 : Int32)), .val (.int ea), .val (.int eb), .val (.int ec), .val (.ref a12), .unset, .unset] [(.int (1 : Int32)), (.int (1 : Int32))])) _
        refine XS.icmpYes X16.here hx rfl (pc0 := 67) (pc' := 76) rfl (hb hby at_67) rfl (flt hc67_19).2.2.2 (by decide) (by decide) ?_
        show Steps p.tables e below (T16.setTop (mkF m 76 #[.val (.int p1), .val (.int p2), .val (.int p3), .val (.int p4), .val (.int p5), .val (.int (1 : Int32)), .val (.int ea), .val (.int eb), .val (.int ec), .val (.ref a12), .unset, .unset] [])) _
        refine XS.iload X16.here hx rfl (hb hby at_76) rfl ?_
        show Steps p.tables e below (T16.setTop (mkF m 78 #[.val (.int p1), .val (.int p2), .val (.int p3), .val (.int p4), .val (.int p5), .val (.int (1 : Int32)), .val (.int ea), .val (.int eb), .val (.int ec), .val (.ref a12), .unset, .unset] [(.int (1 : Int32))])) _
        refine XS.iconst X16.here hx rfl (hb hby at_78) ?_
        show Steps p.tables e below (T16.setTop (mkF m 79 #[.val (.int p1), .val (.int p2), .val (.int p3), .val (.int p4), .val (.int p5), .val (.int (1 : Int32)), .val (.int ea), .val (.int eb), .val (.int ec), .val (.ref a12), .unset, .unset] [(.int (2 : Int32)), (.int (1 : Int32))])) _
        refine XS.icmpYes X16.here hx rfl (pc0 := 79) (pc' := 88) rfl (hb hby at_79) rfl (flt hc79_20).2.2.2 (by decide) (by decide) ?_
        show Steps p.tables e below (T16.setTop (mkF m 88 #[.val (.int p1), .val (.int p2), .val (.int p3), .val (.int p4), .val (.int p5), .val (.int (1 : Int32)), .val (.int ea), .val (.int eb), .val (.int ec), .val (.ref a12), .unset, .unset] [])) _
        refine XS.iload X16.here hx rfl (hb hby at_88) rfl ?_
        show Steps p.tables e below (T16.setTop (mkF m 90 #[.val (.int p1), .val (.int p2), .val (.int p3), .val (.int p4), .val (.int p5), .val (.int (1 : Int32)), .val (.int ea), .val (.int eb), .val (.int ec), .val (.ref a12), .unset, .unset] [(.int (1 : Int32))])) _
        refine XS.iconst X16.here hx rfl (hb hby at_90) ?_
        show Steps p.tables e below (T16.setTop (mkF m 91 #[.val (.int p1), .val (.int p2), .val (.int p3), .val (.int p4), .val (.int p5), .val (.int (1 : Int32)), .val (.int ea), .val (.int eb), .val (.int ec), .val (.ref a12), .unset, .unset] [(.int (1 : Int32)), (.int (1 : Int32))])) _
        refine XS.icmpNo X16.here hx rfl (hb hby at_91) rfl (flt hc91_21).1 ?_
        show Steps p.tables e below (T16.setTop (mkF m 94 #[.val (.int p1), .val (.int p2), .val (.int p3), .val (.int p4), .val (.int p5), .val (.int (1 : Int32)), .val (.int ea), .val (.int eb), .val (.int ec), .val (.ref a12), .unset, .unset] [])) _
        refine XS.iload X16.here hx rfl (hb hby at_94) rfl ?_
        show Steps p.tables e below (T16.setTop (mkF m 96 #[.val (.int p1), .val (.int p2), .val (.int p3), .val (.int p4), .val (.int p5), .val (.int (1 : Int32)), .val (.int ea), .val (.int eb), .val (.int ec), .val (.ref a12), .unset, .unset] [(.int ea)])) _
        refine XS.iconst X16.here hx rfl (hb hby at_96) ?_
        show Steps p.tables e below (T16.setTop (mkF m 97 #[.val (.int p1), .val (.int p2), .val (.int p3), .val (.int p4), .val (.int p5), .val (.int (1 : Int32)), .val (.int ea), .val (.int eb), .val (.int ec), .val (.ref a12), .unset, .unset] [(.int (-1 : Int32)), (.int ea)])) _
        exact k
      by_cases hc97 : ea = (-1 : Int32)
      · have hc103_22 : (1 : Int32) < (2 : Int32) := (by decide)
        have hc115_23 : (1 : Int32) < (3 : Int32) := (by decide)
        obtain ⟨cl24, Ar24, q24, S24, M24, H24, U24⟩ := id V17
        obtain ⟨_, _, ⟨T25, uL25, uk25, un25⟩, -, X25, ⟨Lc25, hQ25, ul25, uy25, uz25⟩, st25⟩ := Jvm.LawKit.callS X16 hx (y := (⟨"com/example/landrace_ledger/landraceledger/core/GenotypeEncoding", "isMissing", "([I)Z"⟩ : MethodName)) hown (mvT hZ (hw _ (List.mem_of_getElem? (i := 1) rfl))) (mvT hZ (hw _ (List.mem_of_getElem? (i := 2) rfl))) (mvT hZ (hw _ (List.mem_of_getElem? (i := 3) rfl))) (mvT hZ (hw _ (List.mem_of_getElem? (i := 4) rfl))) (by decide) (backOf (W := 0) (rm1 l Z a0 hw [] a12 cl24 (fun i => ([ea] : List Int32).getD i 0) (1 : Int32) h16 n0 Z16 Ar24 S24 M24 (own_has (xs := ([ea] : List Int32)) H24 S24)) hZ (hw _ (List.mem_of_getElem? (i := 4) rfl)) (hw _ (List.mem_of_getElem? (i := 3) rfl)) (by decide) (by decide)) (g := (mkF m 133 #[.val (.int p1), .val (.int p2), .val (.int p3), .val (.int p4), .val (.int p5), .val (.int (1 : Int32)), .val (.int ea), .val (.int eb), .val (.int ec), .val (.ref a12), .val (.int (1 : Int32)), .unset] [(.ref a12)])) rfl (by rw [hml]; rfl) (argsL := [(.ref a12)]) (rest := []) (lenOf pd__28_5bI_29Z rfl) rfl (by show 2 * 0 + _ ≤ _; exact Nat.le_of_eq rfl) (hb hby at_133) (fun _ _ => ⟨rfl, e16, (by decide : 1 + 0 ≤ _), (by decide : 1 + 0 ≤ _)⟩)
        dsimp only [Pt.U, Pt.locs, Pt.cells, Pt.slots] at X25 ul25 uy25 uz25 st25 hQ25
        subst ul25 uy25 uz25
        obtain ⟨rfl, Nq25, e25⟩ := hQ25
        have N25 := Fr.app N16 Nq25
        have hc142_26 : (own_miss_0 (fun i => ([ea] : List Int32).getD i 0) (1 : Int32)) = (1 : Int32) := by rw [own_m1]; simp [List.getD, hc97]
        refine own_end X25 Bd.notSynchronized (v := some (.int (1 : Int32))) (fun h => by rw [Bd.returns] at h; cases h) (fun fs hr => ?_) e25 ?_ (by decide) (by decide)
        · show Steps p.tables e below (T16.setTop (mkF m 97 #[.val (.int p1), .val (.int p2), .val (.int p3), .val (.int p4), .val (.int p5), .val (.int (1 : Int32)), .val (.int ea), .val (.int eb), .val (.int ec), .val (.ref a12), .unset, .unset] [(.int (-1 : Int32)), (.int ea)])) _
          refine XS.icmpNo X16.here hx rfl (hb hby at_97) rfl (teq hc97).2 ?_
          show Steps p.tables e below (T16.setTop (mkF m 100 #[.val (.int p1), .val (.int p2), .val (.int p3), .val (.int p4), .val (.int p5), .val (.int (1 : Int32)), .val (.int ea), .val (.int eb), .val (.int ec), .val (.ref a12), .unset, .unset] [])) _
          refine XS.iload X16.here hx rfl (hb hby at_100) rfl ?_
          show Steps p.tables e below (T16.setTop (mkF m 102 #[.val (.int p1), .val (.int p2), .val (.int p3), .val (.int p4), .val (.int p5), .val (.int (1 : Int32)), .val (.int ea), .val (.int eb), .val (.int ec), .val (.ref a12), .unset, .unset] [(.int (1 : Int32))])) _
          refine XS.iconst X16.here hx rfl (hb hby at_102) ?_
          show Steps p.tables e below (T16.setTop (mkF m 103 #[.val (.int p1), .val (.int p2), .val (.int p3), .val (.int p4), .val (.int p5), .val (.int (1 : Int32)), .val (.int ea), .val (.int eb), .val (.int ec), .val (.ref a12), .unset, .unset] [(.int (2 : Int32)), (.int (1 : Int32))])) _
          refine XS.icmpYes X16.here hx rfl (pc0 := 103) (pc' := 112) rfl (hb hby at_103) rfl (tlt hc103_22).1 (by decide) (by decide) ?_
          show Steps p.tables e below (T16.setTop (mkF m 112 #[.val (.int p1), .val (.int p2), .val (.int p3), .val (.int p4), .val (.int p5), .val (.int (1 : Int32)), .val (.int ea), .val (.int eb), .val (.int ec), .val (.ref a12), .unset, .unset] [])) _
          refine XS.iload X16.here hx rfl (hb hby at_112) rfl ?_
          show Steps p.tables e below (T16.setTop (mkF m 114 #[.val (.int p1), .val (.int p2), .val (.int p3), .val (.int p4), .val (.int p5), .val (.int (1 : Int32)), .val (.int ea), .val (.int eb), .val (.int ec), .val (.ref a12), .unset, .unset] [(.int (1 : Int32))])) _
          refine XS.iconst X16.here hx rfl (hb hby at_114) ?_
          show Steps p.tables e below (T16.setTop (mkF m 115 #[.val (.int p1), .val (.int p2), .val (.int p3), .val (.int p4), .val (.int p5), .val (.int (1 : Int32)), .val (.int ea), .val (.int eb), .val (.int ec), .val (.ref a12), .unset, .unset] [(.int (3 : Int32)), (.int (1 : Int32))])) _
          refine XS.icmpYes X16.here hx rfl (pc0 := 115) (pc' := 124) rfl (hb hby at_115) rfl (tlt hc115_23).1 (by decide) (by decide) ?_
          show Steps p.tables e below (T16.setTop (mkF m 124 #[.val (.int p1), .val (.int p2), .val (.int p3), .val (.int p4), .val (.int p5), .val (.int (1 : Int32)), .val (.int ea), .val (.int eb), .val (.int ec), .val (.ref a12), .unset, .unset] [])) _
          refine XS.iconst X16.here hx rfl (hb hby at_124) ?_
          show Steps p.tables e below (T16.setTop (mkF m 125 #[.val (.int p1), .val (.int p2), .val (.int p3), .val (.int p4), .val (.int p5), .val (.int (1 : Int32)), .val (.int ea), .val (.int eb), .val (.int ec), .val (.ref a12), .unset, .unset] [(.int (1 : Int32))])) _
          refine XS.goto X16.here hx rfl (pc0 := 125) (pc' := 129) rfl (hb hby at_125) (by decide) (by decide) ?_
          show Steps p.tables e below (T16.setTop (mkF m 129 #[.val (.int p1), .val (.int p2), .val (.int p3), .val (.int p4), .val (.int p5), .val (.int (1 : Int32)), .val (.int ea), .val (.int eb), .val (.int ec), .val (.ref a12), .unset, .unset] [(.int (1 : Int32))])) _
          refine XS.istore X16.here hx rfl (hb hby at_129) rfl (l' := #[.val (.int p1), .val (.int p2), .val (.int p3), .val (.int p4), .val (.int p5), .val (.int (1 : Int32)), .val (.int ea), .val (.int eb), .val (.int ec), .val (.ref a12), .val (.int (1 : Int32)), .unset]) rfl ?_
          show Steps p.tables e below (T16.setTop (mkF m 131 #[.val (.int p1), .val (.int p2), .val (.int p3), .val (.int p4), .val (.int p5), .val (.int (1 : Int32)), .val (.int ea), .val (.int eb), .val (.int ec), .val (.ref a12), .val (.int (1 : Int32)), .unset] [])) _
          refine XS.aload X16.here hx rfl (hb hby at_131) rfl rfl ?_
          show Steps p.tables e below (T16.setTop (mkF m 133 #[.val (.int p1), .val (.int p2), .val (.int p3), .val (.int p4), .val (.int p5), .val (.int (1 : Int32)), .val (.int ea), .val (.int eb), .val (.int ec), .val (.ref a12), .val (.int (1 : Int32)), .unset] [(.ref a12)])) _
          refine st25 _ ?_
          show Steps p.tables e below (T25.setTop (mkF m 136 #[.val (.int p1), .val (.int p2), .val (.int p3), .val (.int p4), .val (.int p5), .val (.int (1 : Int32)), .val (.int ea), .val (.int eb), .val (.int ec), .val (.ref a12), .val (.int (1 : Int32)), .unset] [(.int (own_miss_0 (fun i => ([ea] : List Int32).getD i 0) (1 : Int32)))])) _
          refine XS.istore X25.here hx rfl (hb hby at_136) rfl (l' := #[.val (.int p1), .val (.int p2), .val (.int p3), .val (.int p4), .val (.int p5), .val (.int (1 : Int32)), .val (.int ea), .val (.int eb), .val (.int ec), .val (.ref a12), .val (.int (1 : Int32)), .val (.int (own_miss_0 (fun i => ([ea] : List Int32).getD i 0) (1 : Int32)))]) rfl ?_
          show Steps p.tables e below (T25.setTop (mkF m 138 #[.val (.int p1), .val (.int p2), .val (.int p3), .val (.int p4), .val (.int p5), .val (.int (1 : Int32)), .val (.int ea), .val (.int eb), .val (.int ec), .val (.ref a12), .val (.int (1 : Int32)), .val (.int (own_miss_0 (fun i => ([ea] : List Int32).getD i 0) (1 : Int32)))] [])) _
          refine XS.iload X25.here hx rfl (hb hby at_138) rfl ?_
          show Steps p.tables e below (T25.setTop (mkF m 140 #[.val (.int p1), .val (.int p2), .val (.int p3), .val (.int p4), .val (.int p5), .val (.int (1 : Int32)), .val (.int ea), .val (.int eb), .val (.int ec), .val (.ref a12), .val (.int (1 : Int32)), .val (.int (own_miss_0 (fun i => ([ea] : List Int32).getD i 0) (1 : Int32)))] [(.int (own_miss_0 (fun i => ([ea] : List Int32).getD i 0) (1 : Int32)))])) _
          refine XS.iload X25.here hx rfl (hb hby at_140) rfl ?_
          show Steps p.tables e below (T25.setTop (mkF m 142 #[.val (.int p1), .val (.int p2), .val (.int p3), .val (.int p4), .val (.int p5), .val (.int (1 : Int32)), .val (.int ea), .val (.int eb), .val (.int ec), .val (.ref a12), .val (.int (1 : Int32)), .val (.int (own_miss_0 (fun i => ([ea] : List Int32).getD i 0) (1 : Int32)))] [(.int (1 : Int32)), (.int (own_miss_0 (fun i => ([ea] : List Int32).getD i 0) (1 : Int32)))])) _
          refine XS.icmpNo X25.here hx rfl (hb hby at_142) rfl (teq hc142_26).2 ?_
          show Steps p.tables e below (T25.setTop (mkF m 145 #[.val (.int p1), .val (.int p2), .val (.int p3), .val (.int p4), .val (.int p5), .val (.int (1 : Int32)), .val (.int ea), .val (.int eb), .val (.int ec), .val (.ref a12), .val (.int (1 : Int32)), .val (.int (own_miss_0 (fun i => ([ea] : List Int32).getD i 0) (1 : Int32)))] [])) _
          refine XS.iconst X25.here hx rfl (hb hby at_145) ?_
          show Steps p.tables e below (T25.setTop (mkF m 146 #[.val (.int p1), .val (.int p2), .val (.int p3), .val (.int p4), .val (.int p5), .val (.int (1 : Int32)), .val (.int ea), .val (.int eb), .val (.int ec), .val (.ref a12), .val (.int (1 : Int32)), .val (.int (own_miss_0 (fun i => ([ea] : List Int32).getD i 0) (1 : Int32)))] [(.int (1 : Int32))])) _
          refine XS.goto X25.here hx rfl (pc0 := 146) (pc' := 150) rfl (hb hby at_146) (by decide) (by decide) ?_
          show Steps p.tables e below (T25.setTop (mkF m 150 #[.val (.int p1), .val (.int p2), .val (.int p3), .val (.int p4), .val (.int p5), .val (.int (1 : Int32)), .val (.int ea), .val (.int eb), .val (.int ec), .val (.ref a12), .val (.int (1 : Int32)), .val (.int (own_miss_0 (fun i => ([ea] : List Int32).getD i 0) (1 : Int32)))] [(.int (1 : Int32))])) _
          exact retN X25 hx (t := .boolean) Bd.returns (by simp) (hb hby at_150) hr
        · exact ⟨rfl, N25⟩
      · obtain ⟨cl27, Ar27, q27, S27, M27, H27, U27⟩ := id V17
        obtain ⟨_, _, ⟨T28, uL28, uk28, un28⟩, -, X28, ⟨Lc28, hQ28, ul28, uy28, uz28⟩, st28⟩ := Jvm.LawKit.callS X16 hx (y := (⟨"com/example/landrace_ledger/landraceledger/core/GenotypeEncoding", "isMissing", "([I)Z"⟩ : MethodName)) hown (mvT hZ (hw _ (List.mem_of_getElem? (i := 1) rfl))) (mvT hZ (hw _ (List.mem_of_getElem? (i := 2) rfl))) (mvT hZ (hw _ (List.mem_of_getElem? (i := 3) rfl))) (mvT hZ (hw _ (List.mem_of_getElem? (i := 4) rfl))) (by decide) (backOf (W := 0) (rm1 l Z a0 hw [] a12 cl27 (fun i => ([ea] : List Int32).getD i 0) (1 : Int32) h16 n0 Z16 Ar27 S27 M27 (own_has (xs := ([ea] : List Int32)) H27 S27)) hZ (hw _ (List.mem_of_getElem? (i := 4) rfl)) (hw _ (List.mem_of_getElem? (i := 3) rfl)) (by decide) (by decide)) (g := (mkF m 133 #[.val (.int p1), .val (.int p2), .val (.int p3), .val (.int p4), .val (.int p5), .val (.int (1 : Int32)), .val (.int ea), .val (.int eb), .val (.int ec), .val (.ref a12), .val (.int (0 : Int32)), .unset] [(.ref a12)])) rfl (by rw [hml]; rfl) (argsL := [(.ref a12)]) (rest := []) (lenOf pd__28_5bI_29Z rfl) rfl (by show 2 * 0 + _ ≤ _; exact Nat.le_of_eq rfl) (hb hby at_133) (fun _ _ => ⟨rfl, e16, (by decide : 1 + 0 ≤ _), (by decide : 1 + 0 ≤ _)⟩)
        dsimp only [Pt.U, Pt.locs, Pt.cells, Pt.slots] at X28 ul28 uy28 uz28 st28 hQ28
        subst ul28 uy28 uz28
        obtain ⟨rfl, Nq28, e28⟩ := hQ28
        have N28 := Fr.app N16 Nq28
        have hc142_29 : (own_miss_0 (fun i => ([ea] : List Int32).getD i 0) (1 : Int32)) = (0 : Int32) := by rw [own_m1]; simp [List.getD, hc97]
        refine own_end X28 Bd.notSynchronized (v := some (.int (1 : Int32))) (fun h => by rw [Bd.returns] at h; cases h) (fun fs hr => ?_) e28 ?_ (by decide) (by decide)
        · show Steps p.tables e below (T16.setTop (mkF m 97 #[.val (.int p1), .val (.int p2), .val (.int p3), .val (.int p4), .val (.int p5), .val (.int (1 : Int32)), .val (.int ea), .val (.int eb), .val (.int ec), .val (.ref a12), .unset, .unset] [(.int (-1 : Int32)), (.int ea)])) _
          refine XS.icmpYes X16.here hx rfl (pc0 := 97) (pc' := 128) rfl (hb hby at_97) rfl (feq hc97).2 (by decide) (by decide) ?_
          show Steps p.tables e below (T16.setTop (mkF m 128 #[.val (.int p1), .val (.int p2), .val (.int p3), .val (.int p4), .val (.int p5), .val (.int (1 : Int32)), .val (.int ea), .val (.int eb), .val (.int ec), .val (.ref a12), .unset, .unset] [])) _
          refine XS.iconst X16.here hx rfl (hb hby at_128) ?_
          show Steps p.tables e below (T16.setTop (mkF m 129 #[.val (.int p1), .val (.int p2), .val (.int p3), .val (.int p4), .val (.int p5), .val (.int (1 : Int32)), .val (.int ea), .val (.int eb), .val (.int ec), .val (.ref a12), .unset, .unset] [(.int (0 : Int32))])) _
          refine XS.istore X16.here hx rfl (hb hby at_129) rfl (l' := #[.val (.int p1), .val (.int p2), .val (.int p3), .val (.int p4), .val (.int p5), .val (.int (1 : Int32)), .val (.int ea), .val (.int eb), .val (.int ec), .val (.ref a12), .val (.int (0 : Int32)), .unset]) rfl ?_
          show Steps p.tables e below (T16.setTop (mkF m 131 #[.val (.int p1), .val (.int p2), .val (.int p3), .val (.int p4), .val (.int p5), .val (.int (1 : Int32)), .val (.int ea), .val (.int eb), .val (.int ec), .val (.ref a12), .val (.int (0 : Int32)), .unset] [])) _
          refine XS.aload X16.here hx rfl (hb hby at_131) rfl rfl ?_
          show Steps p.tables e below (T16.setTop (mkF m 133 #[.val (.int p1), .val (.int p2), .val (.int p3), .val (.int p4), .val (.int p5), .val (.int (1 : Int32)), .val (.int ea), .val (.int eb), .val (.int ec), .val (.ref a12), .val (.int (0 : Int32)), .unset] [(.ref a12)])) _
          refine st28 _ ?_
          show Steps p.tables e below (T28.setTop (mkF m 136 #[.val (.int p1), .val (.int p2), .val (.int p3), .val (.int p4), .val (.int p5), .val (.int (1 : Int32)), .val (.int ea), .val (.int eb), .val (.int ec), .val (.ref a12), .val (.int (0 : Int32)), .unset] [(.int (own_miss_0 (fun i => ([ea] : List Int32).getD i 0) (1 : Int32)))])) _
          refine XS.istore X28.here hx rfl (hb hby at_136) rfl (l' := #[.val (.int p1), .val (.int p2), .val (.int p3), .val (.int p4), .val (.int p5), .val (.int (1 : Int32)), .val (.int ea), .val (.int eb), .val (.int ec), .val (.ref a12), .val (.int (0 : Int32)), .val (.int (own_miss_0 (fun i => ([ea] : List Int32).getD i 0) (1 : Int32)))]) rfl ?_
          show Steps p.tables e below (T28.setTop (mkF m 138 #[.val (.int p1), .val (.int p2), .val (.int p3), .val (.int p4), .val (.int p5), .val (.int (1 : Int32)), .val (.int ea), .val (.int eb), .val (.int ec), .val (.ref a12), .val (.int (0 : Int32)), .val (.int (own_miss_0 (fun i => ([ea] : List Int32).getD i 0) (1 : Int32)))] [])) _
          refine XS.iload X28.here hx rfl (hb hby at_138) rfl ?_
          show Steps p.tables e below (T28.setTop (mkF m 140 #[.val (.int p1), .val (.int p2), .val (.int p3), .val (.int p4), .val (.int p5), .val (.int (1 : Int32)), .val (.int ea), .val (.int eb), .val (.int ec), .val (.ref a12), .val (.int (0 : Int32)), .val (.int (own_miss_0 (fun i => ([ea] : List Int32).getD i 0) (1 : Int32)))] [(.int (own_miss_0 (fun i => ([ea] : List Int32).getD i 0) (1 : Int32)))])) _
          refine XS.iload X28.here hx rfl (hb hby at_140) rfl ?_
          show Steps p.tables e below (T28.setTop (mkF m 142 #[.val (.int p1), .val (.int p2), .val (.int p3), .val (.int p4), .val (.int p5), .val (.int (1 : Int32)), .val (.int ea), .val (.int eb), .val (.int ec), .val (.ref a12), .val (.int (0 : Int32)), .val (.int (own_miss_0 (fun i => ([ea] : List Int32).getD i 0) (1 : Int32)))] [(.int (0 : Int32)), (.int (own_miss_0 (fun i => ([ea] : List Int32).getD i 0) (1 : Int32)))])) _
          refine XS.icmpNo X28.here hx rfl (hb hby at_142) rfl (teq hc142_29).2 ?_
          show Steps p.tables e below (T28.setTop (mkF m 145 #[.val (.int p1), .val (.int p2), .val (.int p3), .val (.int p4), .val (.int p5), .val (.int (1 : Int32)), .val (.int ea), .val (.int eb), .val (.int ec), .val (.ref a12), .val (.int (0 : Int32)), .val (.int (own_miss_0 (fun i => ([ea] : List Int32).getD i 0) (1 : Int32)))] [])) _
          refine XS.iconst X28.here hx rfl (hb hby at_145) ?_
          show Steps p.tables e below (T28.setTop (mkF m 146 #[.val (.int p1), .val (.int p2), .val (.int p3), .val (.int p4), .val (.int p5), .val (.int (1 : Int32)), .val (.int ea), .val (.int eb), .val (.int ec), .val (.ref a12), .val (.int (0 : Int32)), .val (.int (own_miss_0 (fun i => ([ea] : List Int32).getD i 0) (1 : Int32)))] [(.int (1 : Int32))])) _
          refine XS.goto X28.here hx rfl (pc0 := 146) (pc' := 150) rfl (hb hby at_146) (by decide) (by decide) ?_
          show Steps p.tables e below (T28.setTop (mkF m 150 #[.val (.int p1), .val (.int p2), .val (.int p3), .val (.int p4), .val (.int p5), .val (.int (1 : Int32)), .val (.int ea), .val (.int eb), .val (.int ec), .val (.ref a12), .val (.int (0 : Int32)), .val (.int (own_miss_0 (fun i => ([ea] : List Int32).getD i 0) (1 : Int32)))] [(.int (1 : Int32))])) _
          exact retN X28 hx (t := .boolean) Bd.returns (by simp) (hb hby at_150) hr
        · exact ⟨rfl, N28⟩
    · obtain ⟨T30, h30, k30, X30, e30, E30, A30, B30, st30⟩ := newPE X0 hx hZ (hw _ (List.mem_of_getElem? (i := 0) rfl)) e0 (g := (mkF m 49 #[.val (.int p1), .val (.int p2), .val (.int p3), .val (.int p4), .val (.int p5), .val (.int (2 : Int32)), .val (.int ea), .val (.int eb), .val (.int ec), .unset, .unset, .unset] [(.int (2 : Int32))])) rfl (hb hby at_49) rfl (by decide) (cap := 2) (by decide) (by decide) (by decide) (by decide) (ad := "[I") (by first | rfl | decide +kernel)
      obtain ⟨a30, ga30⟩ : ∃ z, z = h0.size := ⟨_, rfl⟩
      rw [← ga30] at A30 B30 st30
      have lo30 : n0 ≤ a30 := Nat.le_trans Z0 (Nat.le_of_eq ga30.symm)
      have Z30 : n0 ≤ h30.size := Nat.le_trans Z0 E30.1
      have V31 : Arv Z h30 a30 k30 .int (2 : Int32) [(.int (0 : Int32)), (.int (0 : Int32))] (.int (0 : Int32)) := (Arv.new A30 (by decide)).pad (pad_rep [] (.int (0 : Int32)) 2)
      have hc55_32 : (0 : Int32) < (2 : Int32) := (by decide)
      obtain ⟨cl33, Ar33, q33, S33, M33, H33, U33⟩ := id V31
      obtain ⟨T34, h34, X34, e34, W34, st34⟩ := stI X30 hx hZ e30 Ar33 (j := (0 : Int32)) (by rw [S33]; decide) (g := (mkF m 63 #[.val (.int p1), .val (.int p2), .val (.int p3), .val (.int p4), .val (.int p5), .val (.int (2 : Int32)), .val (.int ea), .val (.int eb), .val (.int ec), .val (.ref a30), .unset, .unset] [(.int ea), (.int (0 : Int32)), (.ref a30)])) rfl rfl (hb hby at_63)
      have N34 := Fr.snoc X34 N0 lo30
      have V35 : Arv Z h34 a30 k30 .int (2 : Int32) [(.int ea), (.int (0 : Int32))] (.int (0 : Int32)) := Arv.set Ar33 q33 S33 M33 H33 U33 rfl W34 0 rfl (by show 0 < 2; decide)
      have E36 := B30.wr W34
      have Z34 : n0 ≤ h34.size := by rw [W34.size]; exact Z30
      have hc67_37 : (1 : Int32) < (2 : Int32) := (by decide)
      obtain ⟨cl38, Ar38, q38, S38, M38, H38, U38⟩ := id V35
      obtain ⟨T39, h39, X39, e39, W39, st39⟩ := stI X34 hx hZ e34 Ar38 (j := (1 : Int32)) (by rw [S38]; decide) (g := (mkF m 75 #[.val (.int p1), .val (.int p2), .val (.int p3), .val (.int p4), .val (.int p5), .val (.int (2 : Int32)), .val (.int ea), .val (.int eb), .val (.int ec), .val (.ref a30), .unset, .unset] [(.int eb), (.int (1 : Int32)), (.ref a30)])) rfl rfl (hb hby at_75)
      have N39 := Fr.snoc X39 N34 lo30
      have V40 : Arv Z h39 a30 k30 .int (2 : Int32) [(.int ea), (.int eb)] (.int (0 : Int32)) := Arv.set Ar38 q38 S38 M38 H38 U38 rfl W39 1 rfl (by show 1 < 2; decide)
      have E41 := E36.wr W39
      have Z39 : n0 ≤ h39.size := by rw [W39.size]; exact Z34
      have hc79_42 : ¬ ((2 : Int32) < (2 : Int32)) := (by decide)
      have hc91_43 : ¬ ((2 : Int32) < (1 : Int32)) := (by decide)
      refine own_go (b := T39.setTop (mkF m 97 #[.val (.int p1), .val (.int p2), .val (.int p3), .val (.int p4), .val (.int p5), .val (.int (2 : Int32)), .val (.int ea), .val (.int eb), .val (.int ec), .val (.ref a30), .unset, .unset] [(.int (-1 : Int32)), (.int ea)])) (fun t k => ?_) ?_
      · show Steps p.tables e below (s₁.setTop (mkF m 47 #[.val (.int p1), .val (.int p2), .val (.int p3), .val (.int p4), .val (.int p5), .val (.int (2 : Int32)), .val (.int ea), .val (.int eb), .val (.int ec), .unset, .unset, .unset] [])) _
        refine XS.iload X0.here hx rfl (hb hby at_47) rfl ?_
        show Steps p.tables e below (s₁.setTop (mkF m 49 #[.val (.int p1), .val (.int p2), .val (.int p3), .val (.int p4), .val (.int p5), .val (.int (2 : Int32)), .val (.int ea), .val (.int eb), .val (.int ec), .unset, .unset, .unset] [(.int (2 : Int32))])) _
        refine st30 _ ?_
        show Steps p.tables e below (T30.setTop (mkF m 51 #[.val (.int p1), .val (.int p2), .val (.int p3), .val (.int p4), .val (.int p5), .val (.int (2 : Int32)), .val (.int ea), .val (.int eb), .val (.int ec), .unset, .unset, .unset] [(.ref a30)])) _
        refine XS.astore X30.here hx rfl (hb hby at_51) rfl rfl (l' := #[.val (.int p1), .val (.int p2), .val (.int p3), .val (.int p4), .val (.int p5), .val (.int (2 : Int32)), .val (.int ea), .val (.int eb), .val (.int ec), .val (.ref a30), .unset, .unset]) rfl ?_
        show Steps p.tables e below (T30.setTop (mkF m 53 #[.val (.int p1), .val (.int p2), .val (.int p3), .val (.int p4), .val (.int p5), .val (.int (2 : Int32)), .val (.int ea), .val (.int eb), .val (.int ec), .val (.ref a30), .unset, .unset] [])) _
        refine XS.iload X30.here hx rfl (hb hby at_53) rfl ?_
        show Steps p.tables e below (T30.setTop (mkF m 55 #[.val (.int p1), .val (.int p2), .val (.int p3), .val (.int p4), .val (.int p5), .val (.int (2 : Int32)), .val (.int ea), .val (.int eb), .val (.int ec), .val (.ref a30), .unset, .unset] [(.int (2 : Int32))])) _
        refine XS.ifNo X30.here hx rfl (hb hby at_55) rfl ((if0 _ _).trans (tlt hc55_32).2.2.2) ?_
        show Steps p.tables e below (T30.setTop (mkF m 58 #[.val (.int p1), .val (.int p2), .val (.int p3), .val (.int p4), .val (.int p5), .val (.int (2 : Int32)), .val (.int ea), .val (.int eb), .val (.int ec), .val (.ref a30), .unset, .unset] [])) _
        refine XS.aload X30.here hx rfl (hb hby at_58) rfl rfl ?_
        show Steps p.tables e below (T30.setTop (mkF m 60 #[.val (.int p1), .val (.int p2), .val (.int p3), .val (.int p4), .val (.int p5), .val (.int (2 : Int32)), .val (.int ea), .val (.int eb), .val (.int ec), .val (.ref a30), .unset, .unset] [(.ref a30)])) _
        refine XS.iconst X30.here hx rfl (hb hby at_60) ?_
        show Steps p.tables e below (T30.setTop (mkF m 61 #[.val (.int p1), .val (.int p2), .val (.int p3), .val (.int p4), .val (.int p5), .val (.int (2 : Int32)), .val (.int ea), .val (.int eb), .val (.int ec), .val (.ref a30), .unset, .unset] [(.int (0 : Int32)), (.ref a30)])) _
        refine XS.iload X30.here hx rfl (hb hby at_61) rfl ?_
        show Steps p.tables e below (T30.setTop (mkF m 63 #[.val (.int p1), .val (.int p2), .val (.int p3), .val (.int p4), .val (.int p5), .val (.int (2 : Int32)), .val (.int ea), .val (.int eb), .val (.int ec), .val (.ref a30), .unset, .unset] [(.int ea), (.int (0 : Int32)), (.ref a30)])) _
        refine st34 _ ?_
        show Steps p.tables e below (T34.setTop (mkF m 64 #[.val (.int p1), .val (.int p2), .val (.int p3), .val (.int p4), .val (.int p5), .val (.int (2 : Int32)), .val (.int ea), .val (.int eb), .val (.int ec), .val (.ref a30), .unset, .unset] [])) _
        refine XS.iload X34.here hx rfl (hb hby at_64) rfl ?_
        show Steps p.tables e below (T34.setTop (mkF m 66 #[.val (.int p1), .val (.int p2), .val (.int p3), .val (.int p4), .val (.int p5), .val (.int (2 : Int32)), .val (.int ea), .val (.int eb), .val (.int ec), .val (.ref a30), .unset, .unset] [(.int (2 : Int32))])) _
        refine XS.iconst X34.here hx rfl (hb hby at_66) ?_
        show Steps p.tables e below (T34.setTop (mkF m 67 #[.val (.int p1), .val (.int p2), .val (.int p3), .val (.int p4), .val (.int p5), .val (.int (2 : Int32)), .val (.int ea), .val (.int eb), .val (.int ec), .val (.ref a30), .unset, .unset] [(.int (1 : Int32)), (.int (2 : Int32))])) _
        refine XS.icmpNo X34.here hx rfl (hb hby at_67) rfl (tlt hc67_37).2.2.2 ?_
        show Steps p.tables e below (T34.setTop (mkF m 70 #[.val (.int p1), .val (.int p2), .val (.int p3), .val (.int p4), .val (.int p5), .val (.int (2 : Int32)), .val (.int ea), .val (.int eb), .val (.int ec), .val (.ref a30), .unset, .unset] [])) _
        refine XS.aload X34.here hx rfl (hb hby at_70) rfl rfl ?_
        show Steps p.tables e below (T34.setTop (mkF m 72 #[.val (.int p1), .val (.int p2), .val (.int p3), .val (.int p4), .val (.int p5), .val (.int (2 : Int32)), .val (.int ea), .val (.int eb), .val (.int ec), .val (.ref a30), .unset, .unset] [(.ref a30)])) _
        refine XS.iconst X34.here hx rfl (hb hby at_72) ?_
        show Steps p.tables e below (T34.setTop (mkF m 73 #[.val (.int p1), .val (.int p2), .val (.int p3), .val (.int p4), .val (.int p5), .val (.int (2 : Int32)), .val (.int ea), .val (.int eb), .val (.int ec), .val (.ref a30), .unset, .unset] [(.int (1 : Int32)), (.ref a30)])) _
        refine XS.iload X34.here hx rfl (hb hby at_73) rfl ?_
        show Steps p.tables e below (T34.setTop (mkF m 75 #[.val (.int p1), .val (.int p2), .val (.int p3), .val (.int p4), .val (.int p5), .val (.int (2 : Int32)), .val (.int ea), .val (.int eb), .val (.int ec), .val (.ref a30), .unset, .unset] [(.int eb), (.int (1 : Int32)), (.ref a30)])) _
        refine st39 _ ?_
        show Steps p.tables e below (T39.setTop (mkF m 76 #[.val (.int p1), .val (.int p2), .val (.int p3), .val (.int p4), .val (.int p5), .val (.int (2 : Int32)), .val (.int ea), .val (.int eb), .val (.int ec), .val (.ref a30), .unset, .unset] [])) _
        refine XS.iload X39.here hx rfl (hb hby at_76) rfl ?_
        show Steps p.tables e below (T39.setTop (mkF m 78 #[.val (.int p1), .val (.int p2), .val (.int p3), .val (.int p4), .val (.int p5), .val (.int (2 : Int32)), .val (.int ea), .val (.int eb), .val (.int ec), .val (.ref a30), .unset, .unset] [(.int (2 : Int32))])) _
        refine XS.iconst X39.here hx rfl (hb hby at_78) ?_
        show Steps p.tables e below (T39.setTop (mkF m 79 #[.val (.int p1), .val (.int p2), .val (.int p3), .val (.int p4), .val (.int p5), .val (.int (2 : Int32)), .val (.int ea), .val (.int eb), .val (.int ec), .val (.ref a30), .unset, .unset] [(.int (2 : Int32)), (.int (2 : Int32))])) _
        refine XS.icmpYes X39.here hx rfl (pc0 := 79) (pc' := 88) rfl (hb hby at_79) rfl (flt hc79_42).2.2.2 (by decide) (by decide) ?_
        show Steps p.tables e below (T39.setTop (mkF m 88 #[.val (.int p1), .val (.int p2), .val (.int p3), .val (.int p4), .val (.int p5), .val (.int (2 : Int32)), .val (.int ea), .val (.int eb), .val (.int ec), .val (.ref a30), .unset, .unset] [])) _
        refine XS.iload X39.here hx rfl (hb hby at_88) rfl ?_
        show Steps p.tables e below (T39.setTop (mkF m 90 #[.val (.int p1), .val (.int p2), .val (.int p3), .val (.int p4), .val (.int p5), .val (.int (2 : Int32)), .val (.int ea), .val (.int eb), .val (.int ec), .val (.ref a30), .unset, .unset] [(.int (2 : Int32))])) _
        refine XS.iconst X39.here hx rfl (hb hby at_90) ?_
        show Steps p.tables e below (T39.setTop (mkF m 91 #[.val (.int p1), .val (.int p2), .val (.int p3), .val (.int p4), .val (.int p5), .val (.int (2 : Int32)), .val (.int ea), .val (.int eb), .val (.int ec), .val (.ref a30), .unset, .unset] [(.int (1 : Int32)), (.int (2 : Int32))])) _
        refine XS.icmpNo X39.here hx rfl (hb hby at_91) rfl (flt hc91_43).1 ?_
        show Steps p.tables e below (T39.setTop (mkF m 94 #[.val (.int p1), .val (.int p2), .val (.int p3), .val (.int p4), .val (.int p5), .val (.int (2 : Int32)), .val (.int ea), .val (.int eb), .val (.int ec), .val (.ref a30), .unset, .unset] [])) _
        refine XS.iload X39.here hx rfl (hb hby at_94) rfl ?_
        show Steps p.tables e below (T39.setTop (mkF m 96 #[.val (.int p1), .val (.int p2), .val (.int p3), .val (.int p4), .val (.int p5), .val (.int (2 : Int32)), .val (.int ea), .val (.int eb), .val (.int ec), .val (.ref a30), .unset, .unset] [(.int ea)])) _
        refine XS.iconst X39.here hx rfl (hb hby at_96) ?_
        show Steps p.tables e below (T39.setTop (mkF m 97 #[.val (.int p1), .val (.int p2), .val (.int p3), .val (.int p4), .val (.int p5), .val (.int (2 : Int32)), .val (.int ea), .val (.int eb), .val (.int ec), .val (.ref a30), .unset, .unset] [(.int (-1 : Int32)), (.int ea)])) _
        exact k
      by_cases hc97 : ea = (-1 : Int32)
      · have hc103_44 : ¬ ((2 : Int32) < (2 : Int32)) := (by decide)
        refine own_go (b := T39.setTop (mkF m 109 #[.val (.int p1), .val (.int p2), .val (.int p3), .val (.int p4), .val (.int p5), .val (.int (2 : Int32)), .val (.int ea), .val (.int eb), .val (.int ec), .val (.ref a30), .unset, .unset] [(.int (-1 : Int32)), (.int eb)])) (fun t k => ?_) ?_
        · show Steps p.tables e below (T39.setTop (mkF m 97 #[.val (.int p1), .val (.int p2), .val (.int p3), .val (.int p4), .val (.int p5), .val (.int (2 : Int32)), .val (.int ea), .val (.int eb), .val (.int ec), .val (.ref a30), .unset, .unset] [(.int (-1 : Int32)), (.int ea)])) _
          refine XS.icmpNo X39.here hx rfl (hb hby at_97) rfl (teq hc97).2 ?_
          show Steps p.tables e below (T39.setTop (mkF m 100 #[.val (.int p1), .val (.int p2), .val (.int p3), .val (.int p4), .val (.int p5), .val (.int (2 : Int32)), .val (.int ea), .val (.int eb), .val (.int ec), .val (.ref a30), .unset, .unset] [])) _
          refine XS.iload X39.here hx rfl (hb hby at_100) rfl ?_
          show Steps p.tables e below (T39.setTop (mkF m 102 #[.val (.int p1), .val (.int p2), .val (.int p3), .val (.int p4), .val (.int p5), .val (.int (2 : Int32)), .val (.int ea), .val (.int eb), .val (.int ec), .val (.ref a30), .unset, .unset] [(.int (2 : Int32))])) _
          refine XS.iconst X39.here hx rfl (hb hby at_102) ?_
          show Steps p.tables e below (T39.setTop (mkF m 103 #[.val (.int p1), .val (.int p2), .val (.int p3), .val (.int p4), .val (.int p5), .val (.int (2 : Int32)), .val (.int ea), .val (.int eb), .val (.int ec), .val (.ref a30), .unset, .unset] [(.int (2 : Int32)), (.int (2 : Int32))])) _
          refine XS.icmpNo X39.here hx rfl (hb hby at_103) rfl (flt hc103_44).1 ?_
          show Steps p.tables e below (T39.setTop (mkF m 106 #[.val (.int p1), .val (.int p2), .val (.int p3), .val (.int p4), .val (.int p5), .val (.int (2 : Int32)), .val (.int ea), .val (.int eb), .val (.int ec), .val (.ref a30), .unset, .unset] [])) _
          refine XS.iload X39.here hx rfl (hb hby at_106) rfl ?_
          show Steps p.tables e below (T39.setTop (mkF m 108 #[.val (.int p1), .val (.int p2), .val (.int p3), .val (.int p4), .val (.int p5), .val (.int (2 : Int32)), .val (.int ea), .val (.int eb), .val (.int ec), .val (.ref a30), .unset, .unset] [(.int eb)])) _
          refine XS.iconst X39.here hx rfl (hb hby at_108) ?_
          show Steps p.tables e below (T39.setTop (mkF m 109 #[.val (.int p1), .val (.int p2), .val (.int p3), .val (.int p4), .val (.int p5), .val (.int (2 : Int32)), .val (.int ea), .val (.int eb), .val (.int ec), .val (.ref a30), .unset, .unset] [(.int (-1 : Int32)), (.int eb)])) _
          exact k
        by_cases hc109 : eb = (-1 : Int32)
        · have hc115_45 : (2 : Int32) < (3 : Int32) := (by decide)
          obtain ⟨cl46, Ar46, q46, S46, M46, H46, U46⟩ := id V40
          obtain ⟨_, _, ⟨T47, uL47, uk47, un47⟩, -, X47, ⟨Lc47, hQ47, ul47, uy47, uz47⟩, st47⟩ := Jvm.LawKit.callS X39 hx (y := (⟨"com/example/landrace_ledger/landraceledger/core/GenotypeEncoding", "isMissing", "([I)Z"⟩ : MethodName)) hown (mvT hZ (hw _ (List.mem_of_getElem? (i := 1) rfl))) (mvT hZ (hw _ (List.mem_of_getElem? (i := 2) rfl))) (mvT hZ (hw _ (List.mem_of_getElem? (i := 3) rfl))) (mvT hZ (hw _ (List.mem_of_getElem? (i := 4) rfl))) (by decide) (backOf (W := 0) (rm1 l Z a0 hw [] a30 cl46 (fun i => ([ea, eb] : List Int32).getD i 0) (2 : Int32) h39 n0 Z39 Ar46 S46 M46 (own_has (xs := ([ea, eb] : List Int32)) H46 S46)) hZ (hw _ (List.mem_of_getElem? (i := 4) rfl)) (hw _ (List.mem_of_getElem? (i := 3) rfl)) (by decide) (by decide)) (g := (mkF m 133 #[.val (.int p1), .val (.int p2), .val (.int p3), .val (.int p4), .val (.int p5), .val (.int (2 : Int32)), .val (.int ea), .val (.int eb), .val (.int ec), .val (.ref a30), .val (.int (1 : Int32)), .unset] [(.ref a30)])) rfl (by rw [hml]; rfl) (argsL := [(.ref a30)]) (rest := []) (lenOf pd__28_5bI_29Z rfl) rfl (by show 2 * 0 + _ ≤ _; exact Nat.le_of_eq rfl) (hb hby at_133) (fun _ _ => ⟨rfl, e39, (by decide : 1 + 0 ≤ _), (by decide : 2 + 0 ≤ _)⟩)
          dsimp only [Pt.U, Pt.locs, Pt.cells, Pt.slots] at X47 ul47 uy47 uz47 st47 hQ47
          subst ul47 uy47 uz47
          obtain ⟨rfl, Nq47, e47⟩ := hQ47
          have N47 := Fr.app N39 Nq47
          have hc142_48 : (own_miss_0 (fun i => ([ea, eb] : List Int32).getD i 0) (2 : Int32)) = (1 : Int32) := by rw [own_m2]; simp [List.getD, hc97, hc109]
          refine own_end X47 Bd.notSynchronized (v := some (.int (1 : Int32))) (fun h => by rw [Bd.returns] at h; cases h) (fun fs hr => ?_) e47 ?_ (by decide) (by decide)
          · show Steps p.tables e below (T39.setTop (mkF m 109 #[.val (.int p1), .val (.int p2), .val (.int p3), .val (.int p4), .val (.int p5), .val (.int (2 : Int32)), .val (.int ea), .val (.int eb), .val (.int ec), .val (.ref a30), .unset, .unset] [(.int (-1 : Int32)), (.int eb)])) _
            refine XS.icmpNo X39.here hx rfl (hb hby at_109) rfl (teq hc109).2 ?_
            show Steps p.tables e below (T39.setTop (mkF m 112 #[.val (.int p1), .val (.int p2), .val (.int p3), .val (.int p4), .val (.int p5), .val (.int (2 : Int32)), .val (.int ea), .val (.int eb), .val (.int ec), .val (.ref a30), .unset, .unset] [])) _
            refine XS.iload X39.here hx rfl (hb hby at_112) rfl ?_
            show Steps p.tables e below (T39.setTop (mkF m 114 #[.val (.int p1), .val (.int p2), .val (.int p3), .val (.int p4), .val (.int p5), .val (.int (2 : Int32)), .val (.int ea), .val (.int eb), .val (.int ec), .val (.ref a30), .unset, .unset] [(.int (2 : Int32))])) _
            refine XS.iconst X39.here hx rfl (hb hby at_114) ?_
            show Steps p.tables e below (T39.setTop (mkF m 115 #[.val (.int p1), .val (.int p2), .val (.int p3), .val (.int p4), .val (.int p5), .val (.int (2 : Int32)), .val (.int ea), .val (.int eb), .val (.int ec), .val (.ref a30), .unset, .unset] [(.int (3 : Int32)), (.int (2 : Int32))])) _
            refine XS.icmpYes X39.here hx rfl (pc0 := 115) (pc' := 124) rfl (hb hby at_115) rfl (tlt hc115_45).1 (by decide) (by decide) ?_
            show Steps p.tables e below (T39.setTop (mkF m 124 #[.val (.int p1), .val (.int p2), .val (.int p3), .val (.int p4), .val (.int p5), .val (.int (2 : Int32)), .val (.int ea), .val (.int eb), .val (.int ec), .val (.ref a30), .unset, .unset] [])) _
            refine XS.iconst X39.here hx rfl (hb hby at_124) ?_
            show Steps p.tables e below (T39.setTop (mkF m 125 #[.val (.int p1), .val (.int p2), .val (.int p3), .val (.int p4), .val (.int p5), .val (.int (2 : Int32)), .val (.int ea), .val (.int eb), .val (.int ec), .val (.ref a30), .unset, .unset] [(.int (1 : Int32))])) _
            refine XS.goto X39.here hx rfl (pc0 := 125) (pc' := 129) rfl (hb hby at_125) (by decide) (by decide) ?_
            show Steps p.tables e below (T39.setTop (mkF m 129 #[.val (.int p1), .val (.int p2), .val (.int p3), .val (.int p4), .val (.int p5), .val (.int (2 : Int32)), .val (.int ea), .val (.int eb), .val (.int ec), .val (.ref a30), .unset, .unset] [(.int (1 : Int32))])) _
            refine XS.istore X39.here hx rfl (hb hby at_129) rfl (l' := #[.val (.int p1), .val (.int p2), .val (.int p3), .val (.int p4), .val (.int p5), .val (.int (2 : Int32)), .val (.int ea), .val (.int eb), .val (.int ec), .val (.ref a30), .val (.int (1 : Int32)), .unset]) rfl ?_
            show Steps p.tables e below (T39.setTop (mkF m 131 #[.val (.int p1), .val (.int p2), .val (.int p3), .val (.int p4), .val (.int p5), .val (.int (2 : Int32)), .val (.int ea), .val (.int eb), .val (.int ec), .val (.ref a30), .val (.int (1 : Int32)), .unset] [])) _
            refine XS.aload X39.here hx rfl (hb hby at_131) rfl rfl ?_
            show Steps p.tables e below (T39.setTop (mkF m 133 #[.val (.int p1), .val (.int p2), .val (.int p3), .val (.int p4), .val (.int p5), .val (.int (2 : Int32)), .val (.int ea), .val (.int eb), .val (.int ec), .val (.ref a30), .val (.int (1 : Int32)), .unset] [(.ref a30)])) _
            refine st47 _ ?_
            show Steps p.tables e below (T47.setTop (mkF m 136 #[.val (.int p1), .val (.int p2), .val (.int p3), .val (.int p4), .val (.int p5), .val (.int (2 : Int32)), .val (.int ea), .val (.int eb), .val (.int ec), .val (.ref a30), .val (.int (1 : Int32)), .unset] [(.int (own_miss_0 (fun i => ([ea, eb] : List Int32).getD i 0) (2 : Int32)))])) _
            refine XS.istore X47.here hx rfl (hb hby at_136) rfl (l' := #[.val (.int p1), .val (.int p2), .val (.int p3), .val (.int p4), .val (.int p5), .val (.int (2 : Int32)), .val (.int ea), .val (.int eb), .val (.int ec), .val (.ref a30), .val (.int (1 : Int32)), .val (.int (own_miss_0 (fun i => ([ea, eb] : List Int32).getD i 0) (2 : Int32)))]) rfl ?_
            show Steps p.tables e below (T47.setTop (mkF m 138 #[.val (.int p1), .val (.int p2), .val (.int p3), .val (.int p4), .val (.int p5), .val (.int (2 : Int32)), .val (.int ea), .val (.int eb), .val (.int ec), .val (.ref a30), .val (.int (1 : Int32)), .val (.int (own_miss_0 (fun i => ([ea, eb] : List Int32).getD i 0) (2 : Int32)))] [])) _
            refine XS.iload X47.here hx rfl (hb hby at_138) rfl ?_
            show Steps p.tables e below (T47.setTop (mkF m 140 #[.val (.int p1), .val (.int p2), .val (.int p3), .val (.int p4), .val (.int p5), .val (.int (2 : Int32)), .val (.int ea), .val (.int eb), .val (.int ec), .val (.ref a30), .val (.int (1 : Int32)), .val (.int (own_miss_0 (fun i => ([ea, eb] : List Int32).getD i 0) (2 : Int32)))] [(.int (own_miss_0 (fun i => ([ea, eb] : List Int32).getD i 0) (2 : Int32)))])) _
            refine XS.iload X47.here hx rfl (hb hby at_140) rfl ?_
            show Steps p.tables e below (T47.setTop (mkF m 142 #[.val (.int p1), .val (.int p2), .val (.int p3), .val (.int p4), .val (.int p5), .val (.int (2 : Int32)), .val (.int ea), .val (.int eb), .val (.int ec), .val (.ref a30), .val (.int (1 : Int32)), .val (.int (own_miss_0 (fun i => ([ea, eb] : List Int32).getD i 0) (2 : Int32)))] [(.int (1 : Int32)), (.int (own_miss_0 (fun i => ([ea, eb] : List Int32).getD i 0) (2 : Int32)))])) _
            refine XS.icmpNo X47.here hx rfl (hb hby at_142) rfl (teq hc142_48).2 ?_
            show Steps p.tables e below (T47.setTop (mkF m 145 #[.val (.int p1), .val (.int p2), .val (.int p3), .val (.int p4), .val (.int p5), .val (.int (2 : Int32)), .val (.int ea), .val (.int eb), .val (.int ec), .val (.ref a30), .val (.int (1 : Int32)), .val (.int (own_miss_0 (fun i => ([ea, eb] : List Int32).getD i 0) (2 : Int32)))] [])) _
            refine XS.iconst X47.here hx rfl (hb hby at_145) ?_
            show Steps p.tables e below (T47.setTop (mkF m 146 #[.val (.int p1), .val (.int p2), .val (.int p3), .val (.int p4), .val (.int p5), .val (.int (2 : Int32)), .val (.int ea), .val (.int eb), .val (.int ec), .val (.ref a30), .val (.int (1 : Int32)), .val (.int (own_miss_0 (fun i => ([ea, eb] : List Int32).getD i 0) (2 : Int32)))] [(.int (1 : Int32))])) _
            refine XS.goto X47.here hx rfl (pc0 := 146) (pc' := 150) rfl (hb hby at_146) (by decide) (by decide) ?_
            show Steps p.tables e below (T47.setTop (mkF m 150 #[.val (.int p1), .val (.int p2), .val (.int p3), .val (.int p4), .val (.int p5), .val (.int (2 : Int32)), .val (.int ea), .val (.int eb), .val (.int ec), .val (.ref a30), .val (.int (1 : Int32)), .val (.int (own_miss_0 (fun i => ([ea, eb] : List Int32).getD i 0) (2 : Int32)))] [(.int (1 : Int32))])) _
            exact retN X47 hx (t := .boolean) Bd.returns (by simp) (hb hby at_150) hr
          · exact ⟨rfl, N47⟩
        · obtain ⟨cl49, Ar49, q49, S49, M49, H49, U49⟩ := id V40
          obtain ⟨_, _, ⟨T50, uL50, uk50, un50⟩, -, X50, ⟨Lc50, hQ50, ul50, uy50, uz50⟩, st50⟩ := Jvm.LawKit.callS X39 hx (y := (⟨"com/example/landrace_ledger/landraceledger/core/GenotypeEncoding", "isMissing", "([I)Z"⟩ : MethodName)) hown (mvT hZ (hw _ (List.mem_of_getElem? (i := 1) rfl))) (mvT hZ (hw _ (List.mem_of_getElem? (i := 2) rfl))) (mvT hZ (hw _ (List.mem_of_getElem? (i := 3) rfl))) (mvT hZ (hw _ (List.mem_of_getElem? (i := 4) rfl))) (by decide) (backOf (W := 0) (rm1 l Z a0 hw [] a30 cl49 (fun i => ([ea, eb] : List Int32).getD i 0) (2 : Int32) h39 n0 Z39 Ar49 S49 M49 (own_has (xs := ([ea, eb] : List Int32)) H49 S49)) hZ (hw _ (List.mem_of_getElem? (i := 4) rfl)) (hw _ (List.mem_of_getElem? (i := 3) rfl)) (by decide) (by decide)) (g := (mkF m 133 #[.val (.int p1), .val (.int p2), .val (.int p3), .val (.int p4), .val (.int p5), .val (.int (2 : Int32)), .val (.int ea), .val (.int eb), .val (.int ec), .val (.ref a30), .val (.int (0 : Int32)), .unset] [(.ref a30)])) rfl (by rw [hml]; rfl) (argsL := [(.ref a30)]) (rest := []) (lenOf pd__28_5bI_29Z rfl) rfl (by show 2 * 0 + _ ≤ _; exact Nat.le_of_eq rfl) (hb hby at_133) (fun _ _ => ⟨rfl, e39, (by decide : 1 + 0 ≤ _), (by decide : 2 + 0 ≤ _)⟩)
          dsimp only [Pt.U, Pt.locs, Pt.cells, Pt.slots] at X50 ul50 uy50 uz50 st50 hQ50
          subst ul50 uy50 uz50
          obtain ⟨rfl, Nq50, e50⟩ := hQ50
          have N50 := Fr.app N39 Nq50
          have hc142_51 : (own_miss_0 (fun i => ([ea, eb] : List Int32).getD i 0) (2 : Int32)) = (0 : Int32) := by rw [own_m2]; simp [List.getD, hc97, hc109]
          refine own_end X50 Bd.notSynchronized (v := some (.int (1 : Int32))) (fun h => by rw [Bd.returns] at h; cases h) (fun fs hr => ?_) e50 ?_ (by decide) (by decide)
          · show Steps p.tables e below (T39.setTop (mkF m 109 #[.val (.int p1), .val (.int p2), .val (.int p3), .val (.int p4), .val (.int p5), .val (.int (2 : Int32)), .val (.int ea), .val (.int eb), .val (.int ec), .val (.ref a30), .unset, .unset] [(.int (-1 : Int32)), (.int eb)])) _
            refine XS.icmpYes X39.here hx rfl (pc0 := 109) (pc' := 128) rfl (hb hby at_109) rfl (feq hc109).2 (by decide) (by decide) ?_
            show Steps p.tables e below (T39.setTop (mkF m 128 #[.val (.int p1), .val (.int p2), .val (.int p3), .val (.int p4), .val (.int p5), .val (.int (2 : Int32)), .val (.int ea), .val (.int eb), .val (.int ec), .val (.ref a30), .unset, .unset] [])) _
            refine XS.iconst X39.here hx rfl (hb hby at_128) ?_
            show Steps p.tables e below (T39.setTop (mkF m 129 #[.val (.int p1), .val (.int p2), .val (.int p3), .val (.int p4), .val (.int p5), .val (.int (2 : Int32)), .val (.int ea), .val (.int eb), .val (.int ec), .val (.ref a30), .unset, .unset] [(.int (0 : Int32))])) _
            refine XS.istore X39.here hx rfl (hb hby at_129) rfl (l' := #[.val (.int p1), .val (.int p2), .val (.int p3), .val (.int p4), .val (.int p5), .val (.int (2 : Int32)), .val (.int ea), .val (.int eb), .val (.int ec), .val (.ref a30), .val (.int (0 : Int32)), .unset]) rfl ?_
            show Steps p.tables e below (T39.setTop (mkF m 131 #[.val (.int p1), .val (.int p2), .val (.int p3), .val (.int p4), .val (.int p5), .val (.int (2 : Int32)), .val (.int ea), .val (.int eb), .val (.int ec), .val (.ref a30), .val (.int (0 : Int32)), .unset] [])) _
            refine XS.aload X39.here hx rfl (hb hby at_131) rfl rfl ?_
            show Steps p.tables e below (T39.setTop (mkF m 133 #[.val (.int p1), .val (.int p2), .val (.int p3), .val (.int p4), .val (.int p5), .val (.int (2 : Int32)), .val (.int ea), .val (.int eb), .val (.int ec), .val (.ref a30), .val (.int (0 : Int32)), .unset] [(.ref a30)])) _
            refine st50 _ ?_
            show Steps p.tables e below (T50.setTop (mkF m 136 #[.val (.int p1), .val (.int p2), .val (.int p3), .val (.int p4), .val (.int p5), .val (.int (2 : Int32)), .val (.int ea), .val (.int eb), .val (.int ec), .val (.ref a30), .val (.int (0 : Int32)), .unset] [(.int (own_miss_0 (fun i => ([ea, eb] : List Int32).getD i 0) (2 : Int32)))])) _
            refine XS.istore X50.here hx rfl (hb hby at_136) rfl (l' := #[.val (.int p1), .val (.int p2), .val (.int p3), .val (.int p4), .val (.int p5), .val (.int (2 : Int32)), .val (.int ea), .val (.int eb), .val (.int ec), .val (.ref a30), .val (.int (0 : Int32)), .val (.int (own_miss_0 (fun i => ([ea, eb] : List Int32).getD i 0) (2 : Int32)))]) rfl ?_
            show Steps p.tables e below (T50.setTop (mkF m 138 #[.val (.int p1), .val (.int p2), .val (.int p3), .val (.int p4), .val (.int p5), .val (.int (2 : Int32)), .val (.int ea), .val (.int eb), .val (.int ec), .val (.ref a30), .val (.int (0 : Int32)), .val (.int (own_miss_0 (fun i => ([ea, eb] : List Int32).getD i 0) (2 : Int32)))] [])) _
            refine XS.iload X50.here hx rfl (hb hby at_138) rfl ?_
            show Steps p.tables e below (T50.setTop (mkF m 140 #[.val (.int p1), .val (.int p2), .val (.int p3), .val (.int p4), .val (.int p5), .val (.int (2 : Int32)), .val (.int ea), .val (.int eb), .val (.int ec), .val (.ref a30), .val (.int (0 : Int32)), .val (.int (own_miss_0 (fun i => ([ea, eb] : List Int32).getD i 0) (2 : Int32)))] [(.int (own_miss_0 (fun i => ([ea, eb] : List Int32).getD i 0) (2 : Int32)))])) _
            refine XS.iload X50.here hx rfl (hb hby at_140) rfl ?_
            show Steps p.tables e below (T50.setTop (mkF m 142 #[.val (.int p1), .val (.int p2), .val (.int p3), .val (.int p4), .val (.int p5), .val (.int (2 : Int32)), .val (.int ea), .val (.int eb), .val (.int ec), .val (.ref a30), .val (.int (0 : Int32)), .val (.int (own_miss_0 (fun i => ([ea, eb] : List Int32).getD i 0) (2 : Int32)))] [(.int (0 : Int32)), (.int (own_miss_0 (fun i => ([ea, eb] : List Int32).getD i 0) (2 : Int32)))])) _
            refine XS.icmpNo X50.here hx rfl (hb hby at_142) rfl (teq hc142_51).2 ?_
            show Steps p.tables e below (T50.setTop (mkF m 145 #[.val (.int p1), .val (.int p2), .val (.int p3), .val (.int p4), .val (.int p5), .val (.int (2 : Int32)), .val (.int ea), .val (.int eb), .val (.int ec), .val (.ref a30), .val (.int (0 : Int32)), .val (.int (own_miss_0 (fun i => ([ea, eb] : List Int32).getD i 0) (2 : Int32)))] [])) _
            refine XS.iconst X50.here hx rfl (hb hby at_145) ?_
            show Steps p.tables e below (T50.setTop (mkF m 146 #[.val (.int p1), .val (.int p2), .val (.int p3), .val (.int p4), .val (.int p5), .val (.int (2 : Int32)), .val (.int ea), .val (.int eb), .val (.int ec), .val (.ref a30), .val (.int (0 : Int32)), .val (.int (own_miss_0 (fun i => ([ea, eb] : List Int32).getD i 0) (2 : Int32)))] [(.int (1 : Int32))])) _
            refine XS.goto X50.here hx rfl (pc0 := 146) (pc' := 150) rfl (hb hby at_146) (by decide) (by decide) ?_
            show Steps p.tables e below (T50.setTop (mkF m 150 #[.val (.int p1), .val (.int p2), .val (.int p3), .val (.int p4), .val (.int p5), .val (.int (2 : Int32)), .val (.int ea), .val (.int eb), .val (.int ec), .val (.ref a30), .val (.int (0 : Int32)), .val (.int (own_miss_0 (fun i => ([ea, eb] : List Int32).getD i 0) (2 : Int32)))] [(.int (1 : Int32))])) _
            exact retN X50 hx (t := .boolean) Bd.returns (by simp) (hb hby at_150) hr
          · exact ⟨rfl, N50⟩
      · obtain ⟨cl52, Ar52, q52, S52, M52, H52, U52⟩ := id V40
        obtain ⟨_, _, ⟨T53, uL53, uk53, un53⟩, -, X53, ⟨Lc53, hQ53, ul53, uy53, uz53⟩, st53⟩ := Jvm.LawKit.callS X39 hx (y := (⟨"com/example/landrace_ledger/landraceledger/core/GenotypeEncoding", "isMissing", "([I)Z"⟩ : MethodName)) hown (mvT hZ (hw _ (List.mem_of_getElem? (i := 1) rfl))) (mvT hZ (hw _ (List.mem_of_getElem? (i := 2) rfl))) (mvT hZ (hw _ (List.mem_of_getElem? (i := 3) rfl))) (mvT hZ (hw _ (List.mem_of_getElem? (i := 4) rfl))) (by decide) (backOf (W := 0) (rm1 l Z a0 hw [] a30 cl52 (fun i => ([ea, eb] : List Int32).getD i 0) (2 : Int32) h39 n0 Z39 Ar52 S52 M52 (own_has (xs := ([ea, eb] : List Int32)) H52 S52)) hZ (hw _ (List.mem_of_getElem? (i := 4) rfl)) (hw _ (List.mem_of_getElem? (i := 3) rfl)) (by decide) (by decide)) (g := (mkF m 133 #[.val (.int p1), .val (.int p2), .val (.int p3), .val (.int p4), .val (.int p5), .val (.int (2 : Int32)), .val (.int ea), .val (.int eb), .val (.int ec), .val (.ref a30), .val (.int (0 : Int32)), .unset] [(.ref a30)])) rfl (by rw [hml]; rfl) (argsL := [(.ref a30)]) (rest := []) (lenOf pd__28_5bI_29Z rfl) rfl (by show 2 * 0 + _ ≤ _; exact Nat.le_of_eq rfl) (hb hby at_133) (fun _ _ => ⟨rfl, e39, (by decide : 1 + 0 ≤ _), (by decide : 2 + 0 ≤ _)⟩)
        dsimp only [Pt.U, Pt.locs, Pt.cells, Pt.slots] at X53 ul53 uy53 uz53 st53 hQ53
        subst ul53 uy53 uz53
        obtain ⟨rfl, Nq53, e53⟩ := hQ53
        have N53 := Fr.app N39 Nq53
        have hc142_54 : (own_miss_0 (fun i => ([ea, eb] : List Int32).getD i 0) (2 : Int32)) = (0 : Int32) := by rw [own_m2]; simp [List.getD, hc97]
        refine own_end X53 Bd.notSynchronized (v := some (.int (1 : Int32))) (fun h => by rw [Bd.returns] at h; cases h) (fun fs hr => ?_) e53 ?_ (by decide) (by decide)
        · show Steps p.tables e below (T39.setTop (mkF m 97 #[.val (.int p1), .val (.int p2), .val (.int p3), .val (.int p4), .val (.int p5), .val (.int (2 : Int32)), .val (.int ea), .val (.int eb), .val (.int ec), .val (.ref a30), .unset, .unset] [(.int (-1 : Int32)), (.int ea)])) _
          refine XS.icmpYes X39.here hx rfl (pc0 := 97) (pc' := 128) rfl (hb hby at_97) rfl (feq hc97).2 (by decide) (by decide) ?_
          show Steps p.tables e below (T39.setTop (mkF m 128 #[.val (.int p1), .val (.int p2), .val (.int p3), .val (.int p4), .val (.int p5), .val (.int (2 : Int32)), .val (.int ea), .val (.int eb), .val (.int ec), .val (.ref a30), .unset, .unset] [])) _
          refine XS.iconst X39.here hx rfl (hb hby at_128) ?_
          show Steps p.tables e below (T39.setTop (mkF m 129 #[.val (.int p1), .val (.int p2), .val (.int p3), .val (.int p4), .val (.int p5), .val (.int (2 : Int32)), .val (.int ea), .val (.int eb), .val (.int ec), .val (.ref a30), .unset, .unset] [(.int (0 : Int32))])) _
          refine XS.istore X39.here hx rfl (hb hby at_129) rfl (l' := #[.val (.int p1), .val (.int p2), .val (.int p3), .val (.int p4), .val (.int p5), .val (.int (2 : Int32)), .val (.int ea), .val (.int eb), .val (.int ec), .val (.ref a30), .val (.int (0 : Int32)), .unset]) rfl ?_
          show Steps p.tables e below (T39.setTop (mkF m 131 #[.val (.int p1), .val (.int p2), .val (.int p3), .val (.int p4), .val (.int p5), .val (.int (2 : Int32)), .val (.int ea), .val (.int eb), .val (.int ec), .val (.ref a30), .val (.int (0 : Int32)), .unset] [])) _
          refine XS.aload X39.here hx rfl (hb hby at_131) rfl rfl ?_
          show Steps p.tables e below (T39.setTop (mkF m 133 #[.val (.int p1), .val (.int p2), .val (.int p3), .val (.int p4), .val (.int p5), .val (.int (2 : Int32)), .val (.int ea), .val (.int eb), .val (.int ec), .val (.ref a30), .val (.int (0 : Int32)), .unset] [(.ref a30)])) _
          refine st53 _ ?_
          show Steps p.tables e below (T53.setTop (mkF m 136 #[.val (.int p1), .val (.int p2), .val (.int p3), .val (.int p4), .val (.int p5), .val (.int (2 : Int32)), .val (.int ea), .val (.int eb), .val (.int ec), .val (.ref a30), .val (.int (0 : Int32)), .unset] [(.int (own_miss_0 (fun i => ([ea, eb] : List Int32).getD i 0) (2 : Int32)))])) _
          refine XS.istore X53.here hx rfl (hb hby at_136) rfl (l' := #[.val (.int p1), .val (.int p2), .val (.int p3), .val (.int p4), .val (.int p5), .val (.int (2 : Int32)), .val (.int ea), .val (.int eb), .val (.int ec), .val (.ref a30), .val (.int (0 : Int32)), .val (.int (own_miss_0 (fun i => ([ea, eb] : List Int32).getD i 0) (2 : Int32)))]) rfl ?_
          show Steps p.tables e below (T53.setTop (mkF m 138 #[.val (.int p1), .val (.int p2), .val (.int p3), .val (.int p4), .val (.int p5), .val (.int (2 : Int32)), .val (.int ea), .val (.int eb), .val (.int ec), .val (.ref a30), .val (.int (0 : Int32)), .val (.int (own_miss_0 (fun i => ([ea, eb] : List Int32).getD i 0) (2 : Int32)))] [])) _
          refine XS.iload X53.here hx rfl (hb hby at_138) rfl ?_
          show Steps p.tables e below (T53.setTop (mkF m 140 #[.val (.int p1), .val (.int p2), .val (.int p3), .val (.int p4), .val (.int p5), .val (.int (2 : Int32)), .val (.int ea), .val (.int eb), .val (.int ec), .val (.ref a30), .val (.int (0 : Int32)), .val (.int (own_miss_0 (fun i => ([ea, eb] : List Int32).getD i 0) (2 : Int32)))] [(.int (own_miss_0 (fun i => ([ea, eb] : List Int32).getD i 0) (2 : Int32)))])) _
          refine XS.iload X53.here hx rfl (hb hby at_140) rfl ?_
          show Steps p.tables e below (T53.setTop (mkF m 142 #[.val (.int p1), .val (.int p2), .val (.int p3), .val (.int p4), .val (.int p5), .val (.int (2 : Int32)), .val (.int ea), .val (.int eb), .val (.int ec), .val (.ref a30), .val (.int (0 : Int32)), .val (.int (own_miss_0 (fun i => ([ea, eb] : List Int32).getD i 0) (2 : Int32)))] [(.int (0 : Int32)), (.int (own_miss_0 (fun i => ([ea, eb] : List Int32).getD i 0) (2 : Int32)))])) _
          refine XS.icmpNo X53.here hx rfl (hb hby at_142) rfl (teq hc142_54).2 ?_
          show Steps p.tables e below (T53.setTop (mkF m 145 #[.val (.int p1), .val (.int p2), .val (.int p3), .val (.int p4), .val (.int p5), .val (.int (2 : Int32)), .val (.int ea), .val (.int eb), .val (.int ec), .val (.ref a30), .val (.int (0 : Int32)), .val (.int (own_miss_0 (fun i => ([ea, eb] : List Int32).getD i 0) (2 : Int32)))] [])) _
          refine XS.iconst X53.here hx rfl (hb hby at_145) ?_
          show Steps p.tables e below (T53.setTop (mkF m 146 #[.val (.int p1), .val (.int p2), .val (.int p3), .val (.int p4), .val (.int p5), .val (.int (2 : Int32)), .val (.int ea), .val (.int eb), .val (.int ec), .val (.ref a30), .val (.int (0 : Int32)), .val (.int (own_miss_0 (fun i => ([ea, eb] : List Int32).getD i 0) (2 : Int32)))] [(.int (1 : Int32))])) _
          refine XS.goto X53.here hx rfl (pc0 := 146) (pc' := 150) rfl (hb hby at_146) (by decide) (by decide) ?_
          show Steps p.tables e below (T53.setTop (mkF m 150 #[.val (.int p1), .val (.int p2), .val (.int p3), .val (.int p4), .val (.int p5), .val (.int (2 : Int32)), .val (.int ea), .val (.int eb), .val (.int ec), .val (.ref a30), .val (.int (0 : Int32)), .val (.int (own_miss_0 (fun i => ([ea, eb] : List Int32).getD i 0) (2 : Int32)))] [(.int (1 : Int32))])) _
          exact retN X53 hx (t := .boolean) Bd.returns (by simp) (hb hby at_150) hr
        · exact ⟨rfl, N53⟩
    · obtain ⟨T55, h55, k55, X55, e55, E55, A55, B55, st55⟩ := newPE X0 hx hZ (hw _ (List.mem_of_getElem? (i := 0) rfl)) e0 (g := (mkF m 49 #[.val (.int p1), .val (.int p2), .val (.int p3), .val (.int p4), .val (.int p5), .val (.int (3 : Int32)), .val (.int ea), .val (.int eb), .val (.int ec), .unset, .unset, .unset] [(.int (3 : Int32))])) rfl (hb hby at_49) rfl (by decide) (cap := 3) (by decide) (by decide) (by decide) (by decide) (ad := "[I") (by first | rfl | decide +kernel)
      obtain ⟨a55, ga55⟩ : ∃ z, z = h0.size := ⟨_, rfl⟩
      rw [← ga55] at A55 B55 st55
      have lo55 : n0 ≤ a55 := Nat.le_trans Z0 (Nat.le_of_eq ga55.symm)
      have Z55 : n0 ≤ h55.size := Nat.le_trans Z0 E55.1
      have V56 : Arv Z h55 a55 k55 .int (3 : Int32) [(.int (0 : Int32)), (.int (0 : Int32)), (.int (0 : Int32))] (.int (0 : Int32)) := (Arv.new A55 (by decide)).pad (pad_rep [] (.int (0 : Int32)) 3)
      have hc55_57 : (0 : Int32) < (3 : Int32) := (by decide)
      obtain ⟨cl58, Ar58, q58, S58, M58, H58, U58⟩ := id V56
      obtain ⟨T59, h59, X59, e59, W59, st59⟩ := stI X55 hx hZ e55 Ar58 (j := (0 : Int32)) (by rw [S58]; decide) (g := (mkF m 63 #[.val (.int p1), .val (.int p2), .val (.int p3), .val (.int p4), .val (.int p5), .val (.int (3 : Int32)), .val (.int ea), .val (.int eb), .val (.int ec), .val (.ref a55), .unset, .unset] [(.int ea), (.int (0 : Int32)), (.ref a55)])) rfl rfl (hb hby at_63)
      have N59 := Fr.snoc X59 N0 lo55
      have V60 : Arv Z h59 a55 k55 .int (3 : Int32) [(.int ea), (.int (0 : Int32)), (.int (0 : Int32))] (.int (0 : Int32)) := Arv.set Ar58 q58 S58 M58 H58 U58 rfl W59 0 rfl (by show 0 < 3; decide)
      have E61 := B55.wr W59
      have Z59 : n0 ≤ h59.size := by rw [W59.size]; exact Z55
      have hc67_62 : (1 : Int32) < (3 : Int32) := (by decide)
      obtain ⟨cl63, Ar63, q63, S63, M63, H63, U63⟩ := id V60
      obtain ⟨T64, h64, X64, e64, W64, st64⟩ := stI X59 hx hZ e59 Ar63 (j := (1 : Int32)) (by rw [S63]; decide) (g := (mkF m 75 #[.val (.int p1), .val (.int p2), .val (.int p3), .val (.int p4), .val (.int p5), .val (.int (3 : Int32)), .val (.int ea), .val (.int eb), .val (.int ec), .val (.ref a55), .unset, .unset] [(.int eb), (.int (1 : Int32)), (.ref a55)])) rfl rfl (hb hby at_75)
      have N64 := Fr.snoc X64 N59 lo55
      have V65 : Arv Z h64 a55 k55 .int (3 : Int32) [(.int ea), (.int eb), (.int (0 : Int32))] (.int (0 : Int32)) := Arv.set Ar63 q63 S63 M63 H63 U63 rfl W64 1 rfl (by show 1 < 3; decide)
      have E66 := E61.wr W64
      have Z64 : n0 ≤ h64.size := by rw [W64.size]; exact Z59
      have hc79_67 : (2 : Int32) < (3 : Int32) := (by decide)
      obtain ⟨cl68, Ar68, q68, S68, M68, H68, U68⟩ := id V65
      obtain ⟨T69, h69, X69, e69, W69, st69⟩ := stI X64 hx hZ e64 Ar68 (j := (2 : Int32)) (by rw [S68]; decide) (g := (mkF m 87 #[.val (.int p1), .val (.int p2), .val (.int p3), .val (.int p4), .val (.int p5), .val (.int (3 : Int32)), .val (.int ea), .val (.int eb), .val (.int ec), .val (.ref a55), .unset, .unset] [(.int ec), (.int (2 : Int32)), (.ref a55)])) rfl rfl (hb hby at_87)
      have N69 := Fr.snoc X69 N64 lo55
      have V70 : Arv Z h69 a55 k55 .int (3 : Int32) [(.int ea), (.int eb), (.int ec)] (.int (0 : Int32)) := Arv.set Ar68 q68 S68 M68 H68 U68 rfl W69 2 rfl (by show 2 < 3; decide)
      have E71 := E66.wr W69
      have Z69 : n0 ≤ h69.size := by rw [W69.size]; exact Z64
      have hc91_72 : ¬ ((3 : Int32) < (1 : Int32)) := (by decide)
      refine own_go (b := T69.setTop (mkF m 97 #[.val (.int p1), .val (.int p2), .val (.int p3), .val (.int p4), .val (.int p5), .val (.int (3 : Int32)), .val (.int ea), .val (.int eb), .val (.int ec), .val (.ref a55), .unset, .unset] [(.int (-1 : Int32)), (.int ea)])) (fun t k => ?_) ?_
      · show Steps p.tables e below (s₁.setTop (mkF m 47 #[.val (.int p1), .val (.int p2), .val (.int p3), .val (.int p4), .val (.int p5), .val (.int (3 : Int32)), .val (.int ea), .val (.int eb), .val (.int ec), .unset, .unset, .unset] [])) _
        refine XS.iload X0.here hx rfl (hb hby at_47) rfl ?_
        show Steps p.tables e below (s₁.setTop (mkF m 49 #[.val (.int p1), .val (.int p2), .val (.int p3), .val (.int p4), .val (.int p5), .val (.int (3 : Int32)), .val (.int ea), .val (.int eb), .val (.int ec), .unset, .unset, .unset] [(.int (3 : Int32))])) _
        refine st55 _ ?_
        show Steps p.tables e below (T55.setTop (mkF m 51 #[.val (.int p1), .val (.int p2), .val (.int p3), .val (.int p4), .val (.int p5), .val (.int (3 : Int32)), .val (.int ea), .val (.int eb), .val (.int ec), .unset, .unset, .unset] [(.ref a55)])) _
        refine XS.astore X55.here hx rfl (hb hby at_51) rfl rfl (l' := #[.val (.int p1), .val (.int p2), .val (.int p3), .val (.int p4), .val (.int p5), .val (.int (3 : Int32)), .val (.int ea), .val (.int eb), .val (.int ec), .val (.ref a55), .unset, .unset]) rfl ?_
        show Steps p.tables e below (T55.setTop (mkF m 53 #[.val (.int p1), .val (.int p2), .val (.int p3), .val (.int p4), .val (.int p5), .val (.int (3 : Int32)), .val (.int ea), .val (.int eb), .val (.int ec), .val (.ref a55), .unset, .unset] [])) _
        refine XS.iload X55.here hx rfl (hb hby at_53) rfl ?_
        show Steps p.tables e below (T55.setTop (mkF m 55 #[.val (.int p1), .val (.int p2), .val (.int p3), .val (.int p4), .val (.int p5), .val (.int (3 : Int32)), .val (.int ea), .val (.int eb), .val (.int ec), .val (.ref a55), .unset, .unset] [(.int (3 : Int32))])) _
        refine XS.ifNo X55.here hx rfl (hb hby at_55) rfl ((if0 _ _).trans (tlt hc55_57).2.2.2) ?_
        show Steps p.tables e below (T55.setTop (mkF m 58 #[.val (.int p1), .val (.int p2), .val (.int p3), .val (.int p4), .val (.int p5), .val (.int (3 : Int32)), .val (.int ea), .val (.int eb), .val (.int ec), .val (.ref a55), .unset, .unset] [])) _
        refine XS.aload X55.here hx rfl (hb hby at_58) rfl rfl ?_
        show Steps p.tables e below (T55.setTop (mkF m 60 #[.val (.int p1), .val (.int p2), .val (.int p3), .val (.int p4), .val (.int p5), .val (.int (3 : Int32)), .val (.int ea), .val (.int eb), .val (.int ec), .val (.ref a55), .unset, .unset] [(.ref a55)])) _
        refine XS.iconst X55.here hx rfl (hb hby at_60) ?_
        show Steps p.tables e below (T55.setTop (mkF m 61 #[.val (.int p1), .val (.int p2), .val (.int p3), .val (.int p4), .val (.int p5), .val (.int (3 : Int32)), .val (.int ea), .val (.int eb), .val (.int ec), .val (.ref a55), .unset, .unset] [(.int (0 : Int32)), (.ref a55)])) _
        refine XS.iload X55.here hx rfl (hb hby at_61) rfl ?_
        show Steps p.tables e below (T55.setTop (mkF m 63 #[.val (.int p1), .val (.int p2), .val (.int p3), .val (.int p4), .val (.int p5), .val (.int (3 : Int32)), .val (.int ea), .val (.int eb), .val (.int ec), .val (.ref a55), .unset, .unset] [(.int ea), (.int (0 : Int32)), (.ref a55)])) _
        refine st59 _ ?_
        show Steps p.tables e below (T59.setTop (mkF m 64 #[.val (.int p1), .val (.int p2), .val (.int p3), .val (.int p4), .val (.int p5), .val (.int (3 : Int32)), .val (.int ea), .val (.int eb), .val (.int ec), .val (.ref a55), .unset, .unset] [])) _
        refine XS.iload X59.here hx rfl (hb hby at_64) rfl ?_
        show Steps p.tables e below (T59.setTop (mkF m 66 #[.val (.int p1), .val (.int p2), .val (.int p3), .val (.int p4), .val (.int p5), .val (.int (3 : Int32)), .val (.int ea), .val (.int eb), .val (.int ec), .val (.ref a55), .unset, .unset] [(.int (3 : Int32))])) _
        refine XS.iconst X59.here hx rfl (hb hby at_66) ?_
        show Steps p.tables e below (T59.setTop (mkF m 67 #[.val (.int p1), .val (.int p2), .val (.int p3), .val (.int p4), .val (.int p5), .val (.int (3 : Int32)), .val (.int ea), .val (.int eb), .val (.int ec), .val (.ref a55), .unset, .unset] [(.int (1 : Int32)), (.int (3 : Int32))])) _
        refine XS.icmpNo X59.here hx rfl (hb hby at_67) rfl (tlt hc67_62).2.2.2 ?_
        show Steps p.tables e below (T59.setTop (mkF m 70 #[.val (.int p1), .val (.int p2), .val (.int p3), .val (.int p4), .val (.int p5), .val (.int (3 : Int32)), .val (.int ea), .val (.int eb), .val (.int ec), .val (.ref a55), .unset, .unset] [])) _
        refine XS.aload X59.here hx rfl (hb hby at_70) rfl rfl ?_
        show Steps p.tables e below (T59.setTop (mkF m 72 #[.val (.int p1), .val (.int p2), .val (.int p3), .val (.int p4), .val (.int p5), .val (.int (3 : Int32)), .val (.int ea), .val (.int eb), .val (.int ec), .val (.ref a55), .unset, .unset] [(.ref a55)])) _
        refine XS.iconst X59.here hx rfl (hb hby at_72) ?_
        show Steps p.tables e below (T59.setTop (mkF m 73 #[.val (.int p1), .val (.int p2), .val (.int p3), .val (.int p4), .val (.int p5), .val (.int (3 : Int32)), .val (.int ea), .val (.int eb), .val (.int ec), .val (.ref a55), .unset, .unset] [(.int (1 : Int32)), (.ref a55)])) _
        refine XS.iload X59.here hx rfl (hb hby at_73) rfl ?_
        show Steps p.tables e below (T59.setTop (mkF m 75 #[.val (.int p1), .val (.int p2), .val (.int p3), .val (.int p4), .val (.int p5), .val (.int (3 : Int32)), .val (.int ea), .val (.int eb), .val (.int ec), .val (.ref a55), .unset, .unset] [(.int eb), (.int (1 : Int32)), (.ref a55)])) _
        refine st64 _ ?_
        show Steps p.tables e below (T64.setTop (mkF m 76 #[.val (.int p1), .val (.int p2), .val (.int p3), .val (.int p4), .val (.int p5), .val (.int (3 : Int32)), .val (.int ea), .val (.int eb), .val (.int ec), .val (.ref a55), .unset, .unset] [])) _
        refine XS.iload X64.here hx rfl (hb hby at_76) rfl ?_
        show Steps p.tables e below (T64.setTop (mkF m 78 #[.val (.int p1), .val (.int p2), .val (.int p3), .val (.int p4), .val (.int p5), .val (.int (3 : Int32)), .val (.int ea), .val (.int eb), .val (.int ec), .val (.ref a55), .unset, .unset] [(.int (3 : Int32))])) _
        refine XS.iconst X64.here hx rfl (hb hby at_78) ?_
        show Steps p.tables e below (T64.setTop (mkF m 79 #[.val (.int p1), .val (.int p2), .val (.int p3), .val (.int p4), .val (.int p5), .val (.int (3 : Int32)), .val (.int ea), .val (.int eb), .val (.int ec), .val (.ref a55), .unset, .unset] [(.int (2 : Int32)), (.int (3 : Int32))])) _
        refine XS.icmpNo X64.here hx rfl (hb hby at_79) rfl (tlt hc79_67).2.2.2 ?_
        show Steps p.tables e below (T64.setTop (mkF m 82 #[.val (.int p1), .val (.int p2), .val (.int p3), .val (.int p4), .val (.int p5), .val (.int (3 : Int32)), .val (.int ea), .val (.int eb), .val (.int ec), .val (.ref a55), .unset, .unset] [])) _
        refine XS.aload X64.here hx rfl (hb hby at_82) rfl rfl ?_
        show Steps p.tables e below (T64.setTop (mkF m 84 #[.val (.int p1), .val (.int p2), .val (.int p3), .val (.int p4), .val (.int p5), .val (.int (3 : Int32)), .val (.int ea), .val (.int eb), .val (.int ec), .val (.ref a55), .unset, .unset] [(.ref a55)])) _
        refine XS.iconst X64.here hx rfl (hb hby at_84) ?_
        show Steps p.tables e below (T64.setTop (mkF m 85 #[.val (.int p1), .val (.int p2), .val (.int p3), .val (.int p4), .val (.int p5), .val (.int (3 : Int32)), .val (.int ea), .val (.int eb), .val (.int ec), .val (.ref a55), .unset, .unset] [(.int (2 : Int32)), (.ref a55)])) _
        refine XS.iload X64.here hx rfl (hb hby at_85) rfl ?_
        show Steps p.tables e below (T64.setTop (mkF m 87 #[.val (.int p1), .val (.int p2), .val (.int p3), .val (.int p4), .val (.int p5), .val (.int (3 : Int32)), .val (.int ea), .val (.int eb), .val (.int ec), .val (.ref a55), .unset, .unset] [(.int ec), (.int (2 : Int32)), (.ref a55)])) _
        refine st69 _ ?_
        show Steps p.tables e below (T69.setTop (mkF m 88 #[.val (.int p1), .val (.int p2), .val (.int p3), .val (.int p4), .val (.int p5), .val (.int (3 : Int32)), .val (.int ea), .val (.int eb), .val (.int ec), .val (.ref a55), .unset, .unset] [])) _
        refine XS.iload X69.here hx rfl (hb hby at_88) rfl ?_
        show Steps p.tables e below (T69.setTop (mkF m 90 #[.val (.int p1), .val (.int p2), .val (.int p3), .val (.int p4), .val (.int p5), .val (.int (3 : Int32)), .val (.int ea), .val (.int eb), .val (.int ec), .val (.ref a55), .unset, .unset] [(.int (3 : Int32))])) _
        refine XS.iconst X69.here hx rfl (hb hby at_90) ?_
        show Steps p.tables e below (T69.setTop (mkF m 91 #[.val (.int p1), .val (.int p2), .val (.int p3), .val (.int p4), .val (.int p5), .val (.int (3 : Int32)), .val (.int ea), .val (.int eb), .val (.int ec), .val (.ref a55), .unset, .unset] [(.int (1 : Int32)), (.int (3 : Int32))])) _
        refine XS.icmpNo X69.here hx rfl (hb hby at_91) rfl (flt hc91_72).1 ?_
        show Steps p.tables e below (T69.setTop (mkF m 94 #[.val (.int p1), .val (.int p2), .val (.int p3), .val (.int p4), .val (.int p5), .val (.int (3 : Int32)), .val (.int ea), .val (.int eb), .val (.int ec), .val (.ref a55), .unset, .unset] [])) _
        refine XS.iload X69.here hx rfl (hb hby at_94) rfl ?_
        show Steps p.tables e below (T69.setTop (mkF m 96 #[.val (.int p1), .val (.int p2), .val (.int p3), .val (.int p4), .val (.int p5), .val (.int (3 : Int32)), .val (.int ea), .val (.int eb), .val (.int ec), .val (.ref a55), .unset, .unset] [(.int ea)])) _
        refine XS.iconst X69.here hx rfl (hb hby at_96) ?_
        show Steps p.tables e below (T69.setTop (mkF m 97 #[.val (.int p1), .val (.int p2), .val (.int p3), .val (.int p4), .val (.int p5), .val (.int (3 : Int32)), .val (.int ea), .val (.int eb), .val (.int ec), .val (.ref a55), .unset, .unset] [(.int (-1 : Int32)), (.int ea)])) _
        exact k
      by_cases hc97 : ea = (-1 : Int32)
      · have hc103_73 : ¬ ((3 : Int32) < (2 : Int32)) := (by decide)
        refine own_go (b := T69.setTop (mkF m 109 #[.val (.int p1), .val (.int p2), .val (.int p3), .val (.int p4), .val (.int p5), .val (.int (3 : Int32)), .val (.int ea), .val (.int eb), .val (.int ec), .val (.ref a55), .unset, .unset] [(.int (-1 : Int32)), (.int eb)])) (fun t k => ?_) ?_
        · show Steps p.tables e below (T69.setTop (mkF m 97 #[.val (.int p1), .val (.int p2), .val (.int p3), .val (.int p4), .val (.int p5), .val (.int (3 : Int32)), .val (.int ea), .val (.int eb), .val (.int ec), .val (.ref a55), .unset, .unset] [(.int (-1 : Int32)), (.int ea)])) _
          refine XS.icmpNo X69.here hx rfl (hb hby at_97) rfl (teq hc97).2 ?_
          show Steps p.tables e below (T69.setTop (mkF m 100 #[.val (.int p1), .val (.int p2), .val (.int p3), .val (.int p4), .val (.int p5), .val (.int (3 : Int32)), .val (.int ea), .val (.int eb), .val (.int ec), .val (.ref a55), .unset, .unset] [])) _
          refine XS.iload X69.here hx rfl (hb hby at_100) rfl ?_
          show Steps p.tables e below (T69.setTop (mkF m 102 #[.val (.int p1), .val (.int p2), .val (.int p3), .val (.int p4), .val (.int p5), .val (.int (3 : Int32)), .val (.int ea), .val (.int eb), .val (.int ec), .val (.ref a55), .unset, .unset] [(.int (3 : Int32))])) _
          refine XS.iconst X69.here hx rfl (hb hby at_102) ?_
          show Steps p.tables e below (T69.setTop (mkF m 103 #[.val (.int p1), .val (.int p2), .val (.int p3), .val (.int p4), .val (.int p5), .val (.int (3 : Int32)), .val (.int ea), .val (.int eb), .val (.int ec), .val (.ref a55), .unset, .unset] [(.int (2 : Int32)), (.int (3 : Int32))])) _
          refine XS.icmpNo X69.here hx rfl (hb hby at_103) rfl (flt hc103_73).1 ?_
          show Steps p.tables e below (T69.setTop (mkF m 106 #[.val (.int p1), .val (.int p2), .val (.int p3), .val (.int p4), .val (.int p5), .val (.int (3 : Int32)), .val (.int ea), .val (.int eb), .val (.int ec), .val (.ref a55), .unset, .unset] [])) _
          refine XS.iload X69.here hx rfl (hb hby at_106) rfl ?_
          show Steps p.tables e below (T69.setTop (mkF m 108 #[.val (.int p1), .val (.int p2), .val (.int p3), .val (.int p4), .val (.int p5), .val (.int (3 : Int32)), .val (.int ea), .val (.int eb), .val (.int ec), .val (.ref a55), .unset, .unset] [(.int eb)])) _
          refine XS.iconst X69.here hx rfl (hb hby at_108) ?_
          show Steps p.tables e below (T69.setTop (mkF m 109 #[.val (.int p1), .val (.int p2), .val (.int p3), .val (.int p4), .val (.int p5), .val (.int (3 : Int32)), .val (.int ea), .val (.int eb), .val (.int ec), .val (.ref a55), .unset, .unset] [(.int (-1 : Int32)), (.int eb)])) _
          exact k
        by_cases hc109 : eb = (-1 : Int32)
        · have hc115_74 : ¬ ((3 : Int32) < (3 : Int32)) := (by decide)
          refine own_go (b := T69.setTop (mkF m 121 #[.val (.int p1), .val (.int p2), .val (.int p3), .val (.int p4), .val (.int p5), .val (.int (3 : Int32)), .val (.int ea), .val (.int eb), .val (.int ec), .val (.ref a55), .unset, .unset] [(.int (-1 : Int32)), (.int ec)])) (fun t k => ?_) ?_
          · show Steps p.tables e below (T69.setTop (mkF m 109 #[.val (.int p1), .val (.int p2), .val (.int p3), .val (.int p4), .val (.int p5), .val (.int (3 : Int32)), .val (.int ea), .val (.int eb), .val (.int ec), .val (.ref a55), .unset, .unset] [(.int (-1 : Int32)), (.int eb)])) _
            refine XS.icmpNo X69.here hx rfl (hb hby at_109) rfl (teq hc109).2 ?_
            show Steps p.tables e below (T69.setTop (mkF m 112 #[.val (.int p1), .val (.int p2), .val (.int p3), .val (.int p4), .val (.int p5), .val (.int (3 : Int32)), .val (.int ea), .val (.int eb), .val (.int ec), .val (.ref a55), .unset, .unset] [])) _
            refine XS.iload X69.here hx rfl (hb hby at_112) rfl ?_
            show Steps p.tables e below (T69.setTop (mkF m 114 #[.val (.int p1), .val (.int p2), .val (.int p3), .val (.int p4), .val (.int p5), .val (.int (3 : Int32)), .val (.int ea), .val (.int eb), .val (.int ec), .val (.ref a55), .unset, .unset] [(.int (3 : Int32))])) _
            refine XS.iconst X69.here hx rfl (hb hby at_114) ?_
            show Steps p.tables e below (T69.setTop (mkF m 115 #[.val (.int p1), .val (.int p2), .val (.int p3), .val (.int p4), .val (.int p5), .val (.int (3 : Int32)), .val (.int ea), .val (.int eb), .val (.int ec), .val (.ref a55), .unset, .unset] [(.int (3 : Int32)), (.int (3 : Int32))])) _
            refine XS.icmpNo X69.here hx rfl (hb hby at_115) rfl (flt hc115_74).1 ?_
            show Steps p.tables e below (T69.setTop (mkF m 118 #[.val (.int p1), .val (.int p2), .val (.int p3), .val (.int p4), .val (.int p5), .val (.int (3 : Int32)), .val (.int ea), .val (.int eb), .val (.int ec), .val (.ref a55), .unset, .unset] [])) _
            refine XS.iload X69.here hx rfl (hb hby at_118) rfl ?_
            show Steps p.tables e below (T69.setTop (mkF m 120 #[.val (.int p1), .val (.int p2), .val (.int p3), .val (.int p4), .val (.int p5), .val (.int (3 : Int32)), .val (.int ea), .val (.int eb), .val (.int ec), .val (.ref a55), .unset, .unset] [(.int ec)])) _
            refine XS.iconst X69.here hx rfl (hb hby at_120) ?_
            show Steps p.tables e below (T69.setTop (mkF m 121 #[.val (.int p1), .val (.int p2), .val (.int p3), .val (.int p4), .val (.int p5), .val (.int (3 : Int32)), .val (.int ea), .val (.int eb), .val (.int ec), .val (.ref a55), .unset, .unset] [(.int (-1 : Int32)), (.int ec)])) _
            exact k
          by_cases hc121 : ec = (-1 : Int32)
          · obtain ⟨cl75, Ar75, q75, S75, M75, H75, U75⟩ := id V70
            obtain ⟨_, _, ⟨T76, uL76, uk76, un76⟩, -, X76, ⟨Lc76, hQ76, ul76, uy76, uz76⟩, st76⟩ := Jvm.LawKit.callS X69 hx (y := (⟨"com/example/landrace_ledger/landraceledger/core/GenotypeEncoding", "isMissing", "([I)Z"⟩ : MethodName)) hown (mvT hZ (hw _ (List.mem_of_getElem? (i := 1) rfl))) (mvT hZ (hw _ (List.mem_of_getElem? (i := 2) rfl))) (mvT hZ (hw _ (List.mem_of_getElem? (i := 3) rfl))) (mvT hZ (hw _ (List.mem_of_getElem? (i := 4) rfl))) (by decide) (backOf (W := 0) (rm1 l Z a0 hw [] a55 cl75 (fun i => ([ea, eb, ec] : List Int32).getD i 0) (3 : Int32) h69 n0 Z69 Ar75 S75 M75 (own_has (xs := ([ea, eb, ec] : List Int32)) H75 S75)) hZ (hw _ (List.mem_of_getElem? (i := 4) rfl)) (hw _ (List.mem_of_getElem? (i := 3) rfl)) (by decide) (by decide)) (g := (mkF m 133 #[.val (.int p1), .val (.int p2), .val (.int p3), .val (.int p4), .val (.int p5), .val (.int (3 : Int32)), .val (.int ea), .val (.int eb), .val (.int ec), .val (.ref a55), .val (.int (1 : Int32)), .unset] [(.ref a55)])) rfl (by rw [hml]; rfl) (argsL := [(.ref a55)]) (rest := []) (lenOf pd__28_5bI_29Z rfl) rfl (by show 2 * 0 + _ ≤ _; exact Nat.le_of_eq rfl) (hb hby at_133) (fun _ _ => ⟨rfl, e69, (by decide : 1 + 0 ≤ _), (by decide : 3 + 0 ≤ _)⟩)
            dsimp only [Pt.U, Pt.locs, Pt.cells, Pt.slots] at X76 ul76 uy76 uz76 st76 hQ76
            subst ul76 uy76 uz76
            obtain ⟨rfl, Nq76, e76⟩ := hQ76
            have N76 := Fr.app N69 Nq76
            have hc142_77 : (own_miss_0 (fun i => ([ea, eb, ec] : List Int32).getD i 0) (3 : Int32)) = (1 : Int32) := by rw [own_m3]; simp [List.getD, hc97, hc109, hc121]
            refine own_end X76 Bd.notSynchronized (v := some (.int (1 : Int32))) (fun h => by rw [Bd.returns] at h; cases h) (fun fs hr => ?_) e76 ?_ (by decide) (by decide)
            · show Steps p.tables e below (T69.setTop (mkF m 121 #[.val (.int p1), .val (.int p2), .val (.int p3), .val (.int p4), .val (.int p5), .val (.int (3 : Int32)), .val (.int ea), .val (.int eb), .val (.int ec), .val (.ref a55), .unset, .unset] [(.int (-1 : Int32)), (.int ec)])) _
              refine XS.icmpNo X69.here hx rfl (hb hby at_121) rfl (teq hc121).2 ?_
              show Steps p.tables e below (T69.setTop (mkF m 124 #[.val (.int p1), .val (.int p2), .val (.int p3), .val (.int p4), .val (.int p5), .val (.int (3 : Int32)), .val (.int ea), .val (.int eb), .val (.int ec), .val (.ref a55), .unset, .unset] [])) _
              refine XS.iconst X69.here hx rfl (hb hby at_124) ?_
              show Steps p.tables e below (T69.setTop (mkF m 125 #[.val (.int p1), .val (.int p2), .val (.int p3), .val (.int p4), .val (.int p5), .val (.int (3 : Int32)), .val (.int ea), .val (.int eb), .val (.int ec), .val (.ref a55), .unset, .unset] [(.int (1 : Int32))])) _
              refine XS.goto X69.here hx rfl (pc0 := 125) (pc' := 129) rfl (hb hby at_125) (by decide) (by decide) ?_
              show Steps p.tables e below (T69.setTop (mkF m 129 #[.val (.int p1), .val (.int p2), .val (.int p3), .val (.int p4), .val (.int p5), .val (.int (3 : Int32)), .val (.int ea), .val (.int eb), .val (.int ec), .val (.ref a55), .unset, .unset] [(.int (1 : Int32))])) _
              refine XS.istore X69.here hx rfl (hb hby at_129) rfl (l' := #[.val (.int p1), .val (.int p2), .val (.int p3), .val (.int p4), .val (.int p5), .val (.int (3 : Int32)), .val (.int ea), .val (.int eb), .val (.int ec), .val (.ref a55), .val (.int (1 : Int32)), .unset]) rfl ?_
              show Steps p.tables e below (T69.setTop (mkF m 131 #[.val (.int p1), .val (.int p2), .val (.int p3), .val (.int p4), .val (.int p5), .val (.int (3 : Int32)), .val (.int ea), .val (.int eb), .val (.int ec), .val (.ref a55), .val (.int (1 : Int32)), .unset] [])) _
              refine XS.aload X69.here hx rfl (hb hby at_131) rfl rfl ?_
              show Steps p.tables e below (T69.setTop (mkF m 133 #[.val (.int p1), .val (.int p2), .val (.int p3), .val (.int p4), .val (.int p5), .val (.int (3 : Int32)), .val (.int ea), .val (.int eb), .val (.int ec), .val (.ref a55), .val (.int (1 : Int32)), .unset] [(.ref a55)])) _
              refine st76 _ ?_
              show Steps p.tables e below (T76.setTop (mkF m 136 #[.val (.int p1), .val (.int p2), .val (.int p3), .val (.int p4), .val (.int p5), .val (.int (3 : Int32)), .val (.int ea), .val (.int eb), .val (.int ec), .val (.ref a55), .val (.int (1 : Int32)), .unset] [(.int (own_miss_0 (fun i => ([ea, eb, ec] : List Int32).getD i 0) (3 : Int32)))])) _
              refine XS.istore X76.here hx rfl (hb hby at_136) rfl (l' := #[.val (.int p1), .val (.int p2), .val (.int p3), .val (.int p4), .val (.int p5), .val (.int (3 : Int32)), .val (.int ea), .val (.int eb), .val (.int ec), .val (.ref a55), .val (.int (1 : Int32)), .val (.int (own_miss_0 (fun i => ([ea, eb, ec] : List Int32).getD i 0) (3 : Int32)))]) rfl ?_
              show Steps p.tables e below (T76.setTop (mkF m 138 #[.val (.int p1), .val (.int p2), .val (.int p3), .val (.int p4), .val (.int p5), .val (.int (3 : Int32)), .val (.int ea), .val (.int eb), .val (.int ec), .val (.ref a55), .val (.int (1 : Int32)), .val (.int (own_miss_0 (fun i => ([ea, eb, ec] : List Int32).getD i 0) (3 : Int32)))] [])) _
              refine XS.iload X76.here hx rfl (hb hby at_138) rfl ?_
              show Steps p.tables e below (T76.setTop (mkF m 140 #[.val (.int p1), .val (.int p2), .val (.int p3), .val (.int p4), .val (.int p5), .val (.int (3 : Int32)), .val (.int ea), .val (.int eb), .val (.int ec), .val (.ref a55), .val (.int (1 : Int32)), .val (.int (own_miss_0 (fun i => ([ea, eb, ec] : List Int32).getD i 0) (3 : Int32)))] [(.int (own_miss_0 (fun i => ([ea, eb, ec] : List Int32).getD i 0) (3 : Int32)))])) _
              refine XS.iload X76.here hx rfl (hb hby at_140) rfl ?_
              show Steps p.tables e below (T76.setTop (mkF m 142 #[.val (.int p1), .val (.int p2), .val (.int p3), .val (.int p4), .val (.int p5), .val (.int (3 : Int32)), .val (.int ea), .val (.int eb), .val (.int ec), .val (.ref a55), .val (.int (1 : Int32)), .val (.int (own_miss_0 (fun i => ([ea, eb, ec] : List Int32).getD i 0) (3 : Int32)))] [(.int (1 : Int32)), (.int (own_miss_0 (fun i => ([ea, eb, ec] : List Int32).getD i 0) (3 : Int32)))])) _
              refine XS.icmpNo X76.here hx rfl (hb hby at_142) rfl (teq hc142_77).2 ?_
              show Steps p.tables e below (T76.setTop (mkF m 145 #[.val (.int p1), .val (.int p2), .val (.int p3), .val (.int p4), .val (.int p5), .val (.int (3 : Int32)), .val (.int ea), .val (.int eb), .val (.int ec), .val (.ref a55), .val (.int (1 : Int32)), .val (.int (own_miss_0 (fun i => ([ea, eb, ec] : List Int32).getD i 0) (3 : Int32)))] [])) _
              refine XS.iconst X76.here hx rfl (hb hby at_145) ?_
              show Steps p.tables e below (T76.setTop (mkF m 146 #[.val (.int p1), .val (.int p2), .val (.int p3), .val (.int p4), .val (.int p5), .val (.int (3 : Int32)), .val (.int ea), .val (.int eb), .val (.int ec), .val (.ref a55), .val (.int (1 : Int32)), .val (.int (own_miss_0 (fun i => ([ea, eb, ec] : List Int32).getD i 0) (3 : Int32)))] [(.int (1 : Int32))])) _
              refine XS.goto X76.here hx rfl (pc0 := 146) (pc' := 150) rfl (hb hby at_146) (by decide) (by decide) ?_
              show Steps p.tables e below (T76.setTop (mkF m 150 #[.val (.int p1), .val (.int p2), .val (.int p3), .val (.int p4), .val (.int p5), .val (.int (3 : Int32)), .val (.int ea), .val (.int eb), .val (.int ec), .val (.ref a55), .val (.int (1 : Int32)), .val (.int (own_miss_0 (fun i => ([ea, eb, ec] : List Int32).getD i 0) (3 : Int32)))] [(.int (1 : Int32))])) _
              exact retN X76 hx (t := .boolean) Bd.returns (by simp) (hb hby at_150) hr
            · exact ⟨rfl, N76⟩
          · obtain ⟨cl78, Ar78, q78, S78, M78, H78, U78⟩ := id V70
            obtain ⟨_, _, ⟨T79, uL79, uk79, un79⟩, -, X79, ⟨Lc79, hQ79, ul79, uy79, uz79⟩, st79⟩ := Jvm.LawKit.callS X69 hx (y := (⟨"com/example/landrace_ledger/landraceledger/core/GenotypeEncoding", "isMissing", "([I)Z"⟩ : MethodName)) hown (mvT hZ (hw _ (List.mem_of_getElem? (i := 1) rfl))) (mvT hZ (hw _ (List.mem_of_getElem? (i := 2) rfl))) (mvT hZ (hw _ (List.mem_of_getElem? (i := 3) rfl))) (mvT hZ (hw _ (List.mem_of_getElem? (i := 4) rfl))) (by decide) (backOf (W := 0) (rm1 l Z a0 hw [] a55 cl78 (fun i => ([ea, eb, ec] : List Int32).getD i 0) (3 : Int32) h69 n0 Z69 Ar78 S78 M78 (own_has (xs := ([ea, eb, ec] : List Int32)) H78 S78)) hZ (hw _ (List.mem_of_getElem? (i := 4) rfl)) (hw _ (List.mem_of_getElem? (i := 3) rfl)) (by decide) (by decide)) (g := (mkF m 133 #[.val (.int p1), .val (.int p2), .val (.int p3), .val (.int p4), .val (.int p5), .val (.int (3 : Int32)), .val (.int ea), .val (.int eb), .val (.int ec), .val (.ref a55), .val (.int (0 : Int32)), .unset] [(.ref a55)])) rfl (by rw [hml]; rfl) (argsL := [(.ref a55)]) (rest := []) (lenOf pd__28_5bI_29Z rfl) rfl (by show 2 * 0 + _ ≤ _; exact Nat.le_of_eq rfl) (hb hby at_133) (fun _ _ => ⟨rfl, e69, (by decide : 1 + 0 ≤ _), (by decide : 3 + 0 ≤ _)⟩)
            dsimp only [Pt.U, Pt.locs, Pt.cells, Pt.slots] at X79 ul79 uy79 uz79 st79 hQ79
            subst ul79 uy79 uz79
            obtain ⟨rfl, Nq79, e79⟩ := hQ79
            have N79 := Fr.app N69 Nq79
            have hc142_80 : (own_miss_0 (fun i => ([ea, eb, ec] : List Int32).getD i 0) (3 : Int32)) = (0 : Int32) := by rw [own_m3]; simp [List.getD, hc97, hc109, hc121]
            refine own_end X79 Bd.notSynchronized (v := some (.int (1 : Int32))) (fun h => by rw [Bd.returns] at h; cases h) (fun fs hr => ?_) e79 ?_ (by decide) (by decide)
            · show Steps p.tables e below (T69.setTop (mkF m 121 #[.val (.int p1), .val (.int p2), .val (.int p3), .val (.int p4), .val (.int p5), .val (.int (3 : Int32)), .val (.int ea), .val (.int eb), .val (.int ec), .val (.ref a55), .unset, .unset] [(.int (-1 : Int32)), (.int ec)])) _
              refine XS.icmpYes X69.here hx rfl (pc0 := 121) (pc' := 128) rfl (hb hby at_121) rfl (feq hc121).2 (by decide) (by decide) ?_
              show Steps p.tables e below (T69.setTop (mkF m 128 #[.val (.int p1), .val (.int p2), .val (.int p3), .val (.int p4), .val (.int p5), .val (.int (3 : Int32)), .val (.int ea), .val (.int eb), .val (.int ec), .val (.ref a55), .unset, .unset] [])) _
              refine XS.iconst X69.here hx rfl (hb hby at_128) ?_
              show Steps p.tables e below (T69.setTop (mkF m 129 #[.val (.int p1), .val (.int p2), .val (.int p3), .val (.int p4), .val (.int p5), .val (.int (3 : Int32)), .val (.int ea), .val (.int eb), .val (.int ec), .val (.ref a55), .unset, .unset] [(.int (0 : Int32))])) _
              refine XS.istore X69.here hx rfl (hb hby at_129) rfl (l' := #[.val (.int p1), .val (.int p2), .val (.int p3), .val (.int p4), .val (.int p5), .val (.int (3 : Int32)), .val (.int ea), .val (.int eb), .val (.int ec), .val (.ref a55), .val (.int (0 : Int32)), .unset]) rfl ?_
              show Steps p.tables e below (T69.setTop (mkF m 131 #[.val (.int p1), .val (.int p2), .val (.int p3), .val (.int p4), .val (.int p5), .val (.int (3 : Int32)), .val (.int ea), .val (.int eb), .val (.int ec), .val (.ref a55), .val (.int (0 : Int32)), .unset] [])) _
              refine XS.aload X69.here hx rfl (hb hby at_131) rfl rfl ?_
              show Steps p.tables e below (T69.setTop (mkF m 133 #[.val (.int p1), .val (.int p2), .val (.int p3), .val (.int p4), .val (.int p5), .val (.int (3 : Int32)), .val (.int ea), .val (.int eb), .val (.int ec), .val (.ref a55), .val (.int (0 : Int32)), .unset] [(.ref a55)])) _
              refine st79 _ ?_
              show Steps p.tables e below (T79.setTop (mkF m 136 #[.val (.int p1), .val (.int p2), .val (.int p3), .val (.int p4), .val (.int p5), .val (.int (3 : Int32)), .val (.int ea), .val (.int eb), .val (.int ec), .val (.ref a55), .val (.int (0 : Int32)), .unset] [(.int (own_miss_0 (fun i => ([ea, eb, ec] : List Int32).getD i 0) (3 : Int32)))])) _
              refine XS.istore X79.here hx rfl (hb hby at_136) rfl (l' := #[.val (.int p1), .val (.int p2), .val (.int p3), .val (.int p4), .val (.int p5), .val (.int (3 : Int32)), .val (.int ea), .val (.int eb), .val (.int ec), .val (.ref a55), .val (.int (0 : Int32)), .val (.int (own_miss_0 (fun i => ([ea, eb, ec] : List Int32).getD i 0) (3 : Int32)))]) rfl ?_
              show Steps p.tables e below (T79.setTop (mkF m 138 #[.val (.int p1), .val (.int p2), .val (.int p3), .val (.int p4), .val (.int p5), .val (.int (3 : Int32)), .val (.int ea), .val (.int eb), .val (.int ec), .val (.ref a55), .val (.int (0 : Int32)), .val (.int (own_miss_0 (fun i => ([ea, eb, ec] : List Int32).getD i 0) (3 : Int32)))] [])) _
              refine XS.iload X79.here hx rfl (hb hby at_138) rfl ?_
              show Steps p.tables e below (T79.setTop (mkF m 140 #[.val (.int p1), .val (.int p2), .val (.int p3), .val (.int p4), .val (.int p5), .val (.int (3 : Int32)), .val (.int ea), .val (.int eb), .val (.int ec), .val (.ref a55), .val (.int (0 : Int32)), .val (.int (own_miss_0 (fun i => ([ea, eb, ec] : List Int32).getD i 0) (3 : Int32)))] [(.int (own_miss_0 (fun i => ([ea, eb, ec] : List Int32).getD i 0) (3 : Int32)))])) _
              refine XS.iload X79.here hx rfl (hb hby at_140) rfl ?_
              show Steps p.tables e below (T79.setTop (mkF m 142 #[.val (.int p1), .val (.int p2), .val (.int p3), .val (.int p4), .val (.int p5), .val (.int (3 : Int32)), .val (.int ea), .val (.int eb), .val (.int ec), .val (.ref a55), .val (.int (0 : Int32)), .val (.int (own_miss_0 (fun i => ([ea, eb, ec] : List Int32).getD i 0) (3 : Int32)))] [(.int (0 : Int32)), (.int (own_miss_0 (fun i => ([ea, eb, ec] : List Int32).getD i 0) (3 : Int32)))])) _
              refine XS.icmpNo X79.here hx rfl (hb hby at_142) rfl (teq hc142_80).2 ?_
              show Steps p.tables e below (T79.setTop (mkF m 145 #[.val (.int p1), .val (.int p2), .val (.int p3), .val (.int p4), .val (.int p5), .val (.int (3 : Int32)), .val (.int ea), .val (.int eb), .val (.int ec), .val (.ref a55), .val (.int (0 : Int32)), .val (.int (own_miss_0 (fun i => ([ea, eb, ec] : List Int32).getD i 0) (3 : Int32)))] [])) _
              refine XS.iconst X79.here hx rfl (hb hby at_145) ?_
              show Steps p.tables e below (T79.setTop (mkF m 146 #[.val (.int p1), .val (.int p2), .val (.int p3), .val (.int p4), .val (.int p5), .val (.int (3 : Int32)), .val (.int ea), .val (.int eb), .val (.int ec), .val (.ref a55), .val (.int (0 : Int32)), .val (.int (own_miss_0 (fun i => ([ea, eb, ec] : List Int32).getD i 0) (3 : Int32)))] [(.int (1 : Int32))])) _
              refine XS.goto X79.here hx rfl (pc0 := 146) (pc' := 150) rfl (hb hby at_146) (by decide) (by decide) ?_
              show Steps p.tables e below (T79.setTop (mkF m 150 #[.val (.int p1), .val (.int p2), .val (.int p3), .val (.int p4), .val (.int p5), .val (.int (3 : Int32)), .val (.int ea), .val (.int eb), .val (.int ec), .val (.ref a55), .val (.int (0 : Int32)), .val (.int (own_miss_0 (fun i => ([ea, eb, ec] : List Int32).getD i 0) (3 : Int32)))] [(.int (1 : Int32))])) _
              exact retN X79 hx (t := .boolean) Bd.returns (by simp) (hb hby at_150) hr
            · exact ⟨rfl, N79⟩
        · obtain ⟨cl81, Ar81, q81, S81, M81, H81, U81⟩ := id V70
          obtain ⟨_, _, ⟨T82, uL82, uk82, un82⟩, -, X82, ⟨Lc82, hQ82, ul82, uy82, uz82⟩, st82⟩ := Jvm.LawKit.callS X69 hx (y := (⟨"com/example/landrace_ledger/landraceledger/core/GenotypeEncoding", "isMissing", "([I)Z"⟩ : MethodName)) hown (mvT hZ (hw _ (List.mem_of_getElem? (i := 1) rfl))) (mvT hZ (hw _ (List.mem_of_getElem? (i := 2) rfl))) (mvT hZ (hw _ (List.mem_of_getElem? (i := 3) rfl))) (mvT hZ (hw _ (List.mem_of_getElem? (i := 4) rfl))) (by decide) (backOf (W := 0) (rm1 l Z a0 hw [] a55 cl81 (fun i => ([ea, eb, ec] : List Int32).getD i 0) (3 : Int32) h69 n0 Z69 Ar81 S81 M81 (own_has (xs := ([ea, eb, ec] : List Int32)) H81 S81)) hZ (hw _ (List.mem_of_getElem? (i := 4) rfl)) (hw _ (List.mem_of_getElem? (i := 3) rfl)) (by decide) (by decide)) (g := (mkF m 133 #[.val (.int p1), .val (.int p2), .val (.int p3), .val (.int p4), .val (.int p5), .val (.int (3 : Int32)), .val (.int ea), .val (.int eb), .val (.int ec), .val (.ref a55), .val (.int (0 : Int32)), .unset] [(.ref a55)])) rfl (by rw [hml]; rfl) (argsL := [(.ref a55)]) (rest := []) (lenOf pd__28_5bI_29Z rfl) rfl (by show 2 * 0 + _ ≤ _; exact Nat.le_of_eq rfl) (hb hby at_133) (fun _ _ => ⟨rfl, e69, (by decide : 1 + 0 ≤ _), (by decide : 3 + 0 ≤ _)⟩)
          dsimp only [Pt.U, Pt.locs, Pt.cells, Pt.slots] at X82 ul82 uy82 uz82 st82 hQ82
          subst ul82 uy82 uz82
          obtain ⟨rfl, Nq82, e82⟩ := hQ82
          have N82 := Fr.app N69 Nq82
          have hc142_83 : (own_miss_0 (fun i => ([ea, eb, ec] : List Int32).getD i 0) (3 : Int32)) = (0 : Int32) := by rw [own_m3]; simp [List.getD, hc97, hc109]
          refine own_end X82 Bd.notSynchronized (v := some (.int (1 : Int32))) (fun h => by rw [Bd.returns] at h; cases h) (fun fs hr => ?_) e82 ?_ (by decide) (by decide)
          · show Steps p.tables e below (T69.setTop (mkF m 109 #[.val (.int p1), .val (.int p2), .val (.int p3), .val (.int p4), .val (.int p5), .val (.int (3 : Int32)), .val (.int ea), .val (.int eb), .val (.int ec), .val (.ref a55), .unset, .unset] [(.int (-1 : Int32)), (.int eb)])) _
            refine XS.icmpYes X69.here hx rfl (pc0 := 109) (pc' := 128) rfl (hb hby at_109) rfl (feq hc109).2 (by decide) (by decide) ?_
            show Steps p.tables e below (T69.setTop (mkF m 128 #[.val (.int p1), .val (.int p2), .val (.int p3), .val (.int p4), .val (.int p5), .val (.int (3 : Int32)), .val (.int ea), .val (.int eb), .val (.int ec), .val (.ref a55), .unset, .unset] [])) _
            refine XS.iconst X69.here hx rfl (hb hby at_128) ?_
            show Steps p.tables e below (T69.setTop (mkF m 129 #[.val (.int p1), .val (.int p2), .val (.int p3), .val (.int p4), .val (.int p5), .val (.int (3 : Int32)), .val (.int ea), .val (.int eb), .val (.int ec), .val (.ref a55), .unset, .unset] [(.int (0 : Int32))])) _
            refine XS.istore X69.here hx rfl (hb hby at_129) rfl (l' := #[.val (.int p1), .val (.int p2), .val (.int p3), .val (.int p4), .val (.int p5), .val (.int (3 : Int32)), .val (.int ea), .val (.int eb), .val (.int ec), .val (.ref a55), .val (.int (0 : Int32)), .unset]) rfl ?_
            show Steps p.tables e below (T69.setTop (mkF m 131 #[.val (.int p1), .val (.int p2), .val (.int p3), .val (.int p4), .val (.int p5), .val (.int (3 : Int32)), .val (.int ea), .val (.int eb), .val (.int ec), .val (.ref a55), .val (.int (0 : Int32)), .unset] [])) _
            refine XS.aload X69.here hx rfl (hb hby at_131) rfl rfl ?_
            show Steps p.tables e below (T69.setTop (mkF m 133 #[.val (.int p1), .val (.int p2), .val (.int p3), .val (.int p4), .val (.int p5), .val (.int (3 : Int32)), .val (.int ea), .val (.int eb), .val (.int ec), .val (.ref a55), .val (.int (0 : Int32)), .unset] [(.ref a55)])) _
            refine st82 _ ?_
            show Steps p.tables e below (T82.setTop (mkF m 136 #[.val (.int p1), .val (.int p2), .val (.int p3), .val (.int p4), .val (.int p5), .val (.int (3 : Int32)), .val (.int ea), .val (.int eb), .val (.int ec), .val (.ref a55), .val (.int (0 : Int32)), .unset] [(.int (own_miss_0 (fun i => ([ea, eb, ec] : List Int32).getD i 0) (3 : Int32)))])) _
            refine XS.istore X82.here hx rfl (hb hby at_136) rfl (l' := #[.val (.int p1), .val (.int p2), .val (.int p3), .val (.int p4), .val (.int p5), .val (.int (3 : Int32)), .val (.int ea), .val (.int eb), .val (.int ec), .val (.ref a55), .val (.int (0 : Int32)), .val (.int (own_miss_0 (fun i => ([ea, eb, ec] : List Int32).getD i 0) (3 : Int32)))]) rfl ?_
            show Steps p.tables e below (T82.setTop (mkF m 138 #[.val (.int p1), .val (.int p2), .val (.int p3), .val (.int p4), .val (.int p5), .val (.int (3 : Int32)), .val (.int ea), .val (.int eb), .val (.int ec), .val (.ref a55), .val (.int (0 : Int32)), .val (.int (own_miss_0 (fun i => ([ea, eb, ec] : List Int32).getD i 0) (3 : Int32)))] [])) _
            refine XS.iload X82.here hx rfl (hb hby at_138) rfl ?_
            show Steps p.tables e below (T82.setTop (mkF m 140 #[.val (.int p1), .val (.int p2), .val (.int p3), .val (.int p4), .val (.int p5), .val (.int (3 : Int32)), .val (.int ea), .val (.int eb), .val (.int ec), .val (.ref a55), .val (.int (0 : Int32)), .val (.int (own_miss_0 (fun i => ([ea, eb, ec] : List Int32).getD i 0) (3 : Int32)))] [(.int (own_miss_0 (fun i => ([ea, eb, ec] : List Int32).getD i 0) (3 : Int32)))])) _
            refine XS.iload X82.here hx rfl (hb hby at_140) rfl ?_
            show Steps p.tables e below (T82.setTop (mkF m 142 #[.val (.int p1), .val (.int p2), .val (.int p3), .val (.int p4), .val (.int p5), .val (.int (3 : Int32)), .val (.int ea), .val (.int eb), .val (.int ec), .val (.ref a55), .val (.int (0 : Int32)), .val (.int (own_miss_0 (fun i => ([ea, eb, ec] : List Int32).getD i 0) (3 : Int32)))] [(.int (0 : Int32)), (.int (own_miss_0 (fun i => ([ea, eb, ec] : List Int32).getD i 0) (3 : Int32)))])) _
            refine XS.icmpNo X82.here hx rfl (hb hby at_142) rfl (teq hc142_83).2 ?_
            show Steps p.tables e below (T82.setTop (mkF m 145 #[.val (.int p1), .val (.int p2), .val (.int p3), .val (.int p4), .val (.int p5), .val (.int (3 : Int32)), .val (.int ea), .val (.int eb), .val (.int ec), .val (.ref a55), .val (.int (0 : Int32)), .val (.int (own_miss_0 (fun i => ([ea, eb, ec] : List Int32).getD i 0) (3 : Int32)))] [])) _
            refine XS.iconst X82.here hx rfl (hb hby at_145) ?_
            show Steps p.tables e below (T82.setTop (mkF m 146 #[.val (.int p1), .val (.int p2), .val (.int p3), .val (.int p4), .val (.int p5), .val (.int (3 : Int32)), .val (.int ea), .val (.int eb), .val (.int ec), .val (.ref a55), .val (.int (0 : Int32)), .val (.int (own_miss_0 (fun i => ([ea, eb, ec] : List Int32).getD i 0) (3 : Int32)))] [(.int (1 : Int32))])) _
            refine XS.goto X82.here hx rfl (pc0 := 146) (pc' := 150) rfl (hb hby at_146) (by decide) (by decide) ?_
            show Steps p.tables e below (T82.setTop (mkF m 150 #[.val (.int p1), .val (.int p2), .val (.int p3), .val (.int p4), .val (.int p5), .val (.int (3 : Int32)), .val (.int ea), .val (.int eb), .val (.int ec), .val (.ref a55), .val (.int (0 : Int32)), .val (.int (own_miss_0 (fun i => ([ea, eb, ec] : List Int32).getD i 0) (3 : Int32)))] [(.int (1 : Int32))])) _
            exact retN X82 hx (t := .boolean) Bd.returns (by simp) (hb hby at_150) hr
          · exact ⟨rfl, N82⟩
      · obtain ⟨cl84, Ar84, q84, S84, M84, H84, U84⟩ := id V70
        obtain ⟨_, _, ⟨T85, uL85, uk85, un85⟩, -, X85, ⟨Lc85, hQ85, ul85, uy85, uz85⟩, st85⟩ := Jvm.LawKit.callS X69 hx (y := (⟨"com/example/landrace_ledger/landraceledger/core/GenotypeEncoding", "isMissing", "([I)Z"⟩ : MethodName)) hown (mvT hZ (hw _ (List.mem_of_getElem? (i := 1) rfl))) (mvT hZ (hw _ (List.mem_of_getElem? (i := 2) rfl))) (mvT hZ (hw _ (List.mem_of_getElem? (i := 3) rfl))) (mvT hZ (hw _ (List.mem_of_getElem? (i := 4) rfl))) (by decide) (backOf (W := 0) (rm1 l Z a0 hw [] a55 cl84 (fun i => ([ea, eb, ec] : List Int32).getD i 0) (3 : Int32) h69 n0 Z69 Ar84 S84 M84 (own_has (xs := ([ea, eb, ec] : List Int32)) H84 S84)) hZ (hw _ (List.mem_of_getElem? (i := 4) rfl)) (hw _ (List.mem_of_getElem? (i := 3) rfl)) (by decide) (by decide)) (g := (mkF m 133 #[.val (.int p1), .val (.int p2), .val (.int p3), .val (.int p4), .val (.int p5), .val (.int (3 : Int32)), .val (.int ea), .val (.int eb), .val (.int ec), .val (.ref a55), .val (.int (0 : Int32)), .unset] [(.ref a55)])) rfl (by rw [hml]; rfl) (argsL := [(.ref a55)]) (rest := []) (lenOf pd__28_5bI_29Z rfl) rfl (by show 2 * 0 + _ ≤ _; exact Nat.le_of_eq rfl) (hb hby at_133) (fun _ _ => ⟨rfl, e69, (by decide : 1 + 0 ≤ _), (by decide : 3 + 0 ≤ _)⟩)
        dsimp only [Pt.U, Pt.locs, Pt.cells, Pt.slots] at X85 ul85 uy85 uz85 st85 hQ85
        subst ul85 uy85 uz85
        obtain ⟨rfl, Nq85, e85⟩ := hQ85
        have N85 := Fr.app N69 Nq85
        have hc142_86 : (own_miss_0 (fun i => ([ea, eb, ec] : List Int32).getD i 0) (3 : Int32)) = (0 : Int32) := by rw [own_m3]; simp [List.getD, hc97]
        refine own_end X85 Bd.notSynchronized (v := some (.int (1 : Int32))) (fun h => by rw [Bd.returns] at h; cases h) (fun fs hr => ?_) e85 ?_ (by decide) (by decide)
        · show Steps p.tables e below (T69.setTop (mkF m 97 #[.val (.int p1), .val (.int p2), .val (.int p3), .val (.int p4), .val (.int p5), .val (.int (3 : Int32)), .val (.int ea), .val (.int eb), .val (.int ec), .val (.ref a55), .unset, .unset] [(.int (-1 : Int32)), (.int ea)])) _
          refine XS.icmpYes X69.here hx rfl (pc0 := 97) (pc' := 128) rfl (hb hby at_97) rfl (feq hc97).2 (by decide) (by decide) ?_
          show Steps p.tables e below (T69.setTop (mkF m 128 #[.val (.int p1), .val (.int p2), .val (.int p3), .val (.int p4), .val (.int p5), .val (.int (3 : Int32)), .val (.int ea), .val (.int eb), .val (.int ec), .val (.ref a55), .unset, .unset] [])) _
          refine XS.iconst X69.here hx rfl (hb hby at_128) ?_
          show Steps p.tables e below (T69.setTop (mkF m 129 #[.val (.int p1), .val (.int p2), .val (.int p3), .val (.int p4), .val (.int p5), .val (.int (3 : Int32)), .val (.int ea), .val (.int eb), .val (.int ec), .val (.ref a55), .unset, .unset] [(.int (0 : Int32))])) _
          refine XS.istore X69.here hx rfl (hb hby at_129) rfl (l' := #[.val (.int p1), .val (.int p2), .val (.int p3), .val (.int p4), .val (.int p5), .val (.int (3 : Int32)), .val (.int ea), .val (.int eb), .val (.int ec), .val (.ref a55), .val (.int (0 : Int32)), .unset]) rfl ?_
          show Steps p.tables e below (T69.setTop (mkF m 131 #[.val (.int p1), .val (.int p2), .val (.int p3), .val (.int p4), .val (.int p5), .val (.int (3 : Int32)), .val (.int ea), .val (.int eb), .val (.int ec), .val (.ref a55), .val (.int (0 : Int32)), .unset] [])) _
          refine XS.aload X69.here hx rfl (hb hby at_131) rfl rfl ?_
          show Steps p.tables e below (T69.setTop (mkF m 133 #[.val (.int p1), .val (.int p2), .val (.int p3), .val (.int p4), .val (.int p5), .val (.int (3 : Int32)), .val (.int ea), .val (.int eb), .val (.int ec), .val (.ref a55), .val (.int (0 : Int32)), .unset] [(.ref a55)])) _
          refine st85 _ ?_
          show Steps p.tables e below (T85.setTop (mkF m 136 #[.val (.int p1), .val (.int p2), .val (.int p3), .val (.int p4), .val (.int p5), .val (.int (3 : Int32)), .val (.int ea), .val (.int eb), .val (.int ec), .val (.ref a55), .val (.int (0 : Int32)), .unset] [(.int (own_miss_0 (fun i => ([ea, eb, ec] : List Int32).getD i 0) (3 : Int32)))])) _
          refine XS.istore X85.here hx rfl (hb hby at_136) rfl (l' := #[.val (.int p1), .val (.int p2), .val (.int p3), .val (.int p4), .val (.int p5), .val (.int (3 : Int32)), .val (.int ea), .val (.int eb), .val (.int ec), .val (.ref a55), .val (.int (0 : Int32)), .val (.int (own_miss_0 (fun i => ([ea, eb, ec] : List Int32).getD i 0) (3 : Int32)))]) rfl ?_
          show Steps p.tables e below (T85.setTop (mkF m 138 #[.val (.int p1), .val (.int p2), .val (.int p3), .val (.int p4), .val (.int p5), .val (.int (3 : Int32)), .val (.int ea), .val (.int eb), .val (.int ec), .val (.ref a55), .val (.int (0 : Int32)), .val (.int (own_miss_0 (fun i => ([ea, eb, ec] : List Int32).getD i 0) (3 : Int32)))] [])) _
          refine XS.iload X85.here hx rfl (hb hby at_138) rfl ?_
          show Steps p.tables e below (T85.setTop (mkF m 140 #[.val (.int p1), .val (.int p2), .val (.int p3), .val (.int p4), .val (.int p5), .val (.int (3 : Int32)), .val (.int ea), .val (.int eb), .val (.int ec), .val (.ref a55), .val (.int (0 : Int32)), .val (.int (own_miss_0 (fun i => ([ea, eb, ec] : List Int32).getD i 0) (3 : Int32)))] [(.int (own_miss_0 (fun i => ([ea, eb, ec] : List Int32).getD i 0) (3 : Int32)))])) _
          refine XS.iload X85.here hx rfl (hb hby at_140) rfl ?_
          show Steps p.tables e below (T85.setTop (mkF m 142 #[.val (.int p1), .val (.int p2), .val (.int p3), .val (.int p4), .val (.int p5), .val (.int (3 : Int32)), .val (.int ea), .val (.int eb), .val (.int ec), .val (.ref a55), .val (.int (0 : Int32)), .val (.int (own_miss_0 (fun i => ([ea, eb, ec] : List Int32).getD i 0) (3 : Int32)))] [(.int (0 : Int32)), (.int (own_miss_0 (fun i => ([ea, eb, ec] : List Int32).getD i 0) (3 : Int32)))])) _
          refine XS.icmpNo X85.here hx rfl (hb hby at_142) rfl (teq hc142_86).2 ?_
          show Steps p.tables e below (T85.setTop (mkF m 145 #[.val (.int p1), .val (.int p2), .val (.int p3), .val (.int p4), .val (.int p5), .val (.int (3 : Int32)), .val (.int ea), .val (.int eb), .val (.int ec), .val (.ref a55), .val (.int (0 : Int32)), .val (.int (own_miss_0 (fun i => ([ea, eb, ec] : List Int32).getD i 0) (3 : Int32)))] [])) _
          refine XS.iconst X85.here hx rfl (hb hby at_145) ?_
          show Steps p.tables e below (T85.setTop (mkF m 146 #[.val (.int p1), .val (.int p2), .val (.int p3), .val (.int p4), .val (.int p5), .val (.int (3 : Int32)), .val (.int ea), .val (.int eb), .val (.int ec), .val (.ref a55), .val (.int (0 : Int32)), .val (.int (own_miss_0 (fun i => ([ea, eb, ec] : List Int32).getD i 0) (3 : Int32)))] [(.int (1 : Int32))])) _
          refine XS.goto X85.here hx rfl (pc0 := 146) (pc' := 150) rfl (hb hby at_146) (by decide) (by decide) ?_
          show Steps p.tables e below (T85.setTop (mkF m 150 #[.val (.int p1), .val (.int p2), .val (.int p3), .val (.int p4), .val (.int p5), .val (.int (3 : Int32)), .val (.int ea), .val (.int eb), .val (.int ec), .val (.ref a55), .val (.int (0 : Int32)), .val (.int (own_miss_0 (fun i => ([ea, eb, ec] : List Int32).getD i 0) (3 : Int32)))] [(.int (1 : Int32))])) _
          exact retN X85 hx (t := .boolean) Bd.returns (by simp) (hb hby at_150) hr
        · exact ⟨rfl, N85⟩
  have J33 : ∀ (ea eb : Int32), own_Go p e below s (Q0 p1 p2 p3 p4 p5 h0 n0) 16 128 (s₁.setTop (mkF m 33 #[.val (.int p1), .val (.int p2), .val (.int p3), .val (.int p4), .val (.int p5), .val (.int (p1 &&& (3 : Int32))), .val (.int ea), .val (.int eb), .unset, .unset, .unset, .unset] [])) := by
    intro ea eb
    refine own_go (b := s₁.setTop (mkF m 37 #[.val (.int p1), .val (.int p2), .val (.int p3), .val (.int p4), .val (.int p5), .val (.int (p1 &&& (3 : Int32))), .val (.int ea), .val (.int eb), .unset, .unset, .unset, .unset] [(.int (p5 &&& (4 : Int32)))])) (fun t k => ?_) ?_
    · show Steps p.tables e below (s₁.setTop (mkF m 33 #[.val (.int p1), .val (.int p2), .val (.int p3), .val (.int p4), .val (.int p5), .val (.int (p1 &&& (3 : Int32))), .val (.int ea), .val (.int eb), .unset, .unset, .unset, .unset] [])) _
      refine XS.iload X0.here hx rfl (hb hby at_33) rfl ?_
      show Steps p.tables e below (s₁.setTop (mkF m 35 #[.val (.int p1), .val (.int p2), .val (.int p3), .val (.int p4), .val (.int p5), .val (.int (p1 &&& (3 : Int32))), .val (.int ea), .val (.int eb), .unset, .unset, .unset, .unset] [(.int p5)])) _
      refine XS.iconst X0.here hx rfl (hb hby at_35) ?_
      show Steps p.tables e below (s₁.setTop (mkF m 36 #[.val (.int p1), .val (.int p2), .val (.int p3), .val (.int p4), .val (.int p5), .val (.int (p1 &&& (3 : Int32))), .val (.int ea), .val (.int eb), .unset, .unset, .unset, .unset] [(.int (4 : Int32)), (.int p5)])) _
      refine XS.iand X0.here hx rfl (hb hby at_36) rfl ?_
      show Steps p.tables e below (s₁.setTop (mkF m 37 #[.val (.int p1), .val (.int p2), .val (.int p3), .val (.int p4), .val (.int p5), .val (.int (p1 &&& (3 : Int32))), .val (.int ea), .val (.int eb), .unset, .unset, .unset, .unset] [(.int (p5 &&& (4 : Int32)))])) _
      exact k
    by_cases hc37 : (p5 &&& (4 : Int32)) = (0 : Int32)
    · refine own_go (b := s₁.setTop (mkF m 47 #[.val (.int p1), .val (.int p2), .val (.int p3), .val (.int p4), .val (.int p5), .val (.int (p1 &&& (3 : Int32))), .val (.int ea), .val (.int eb), .val (.int p4), .unset, .unset, .unset] [])) (fun t k => ?_) ?_
      · show Steps p.tables e below (s₁.setTop (mkF m 37 #[.val (.int p1), .val (.int p2), .val (.int p3), .val (.int p4), .val (.int p5), .val (.int (p1 &&& (3 : Int32))), .val (.int ea), .val (.int eb), .unset, .unset, .unset, .unset] [(.int (p5 &&& (4 : Int32)))])) _
        refine XS.ifYes X0.here hx rfl (pc0 := 37) (pc' := 44) rfl (hb hby at_37) rfl ((if0 _ _).trans (teq hc37).1) (by decide) (by decide) ?_
        show Steps p.tables e below (s₁.setTop (mkF m 44 #[.val (.int p1), .val (.int p2), .val (.int p3), .val (.int p4), .val (.int p5), .val (.int (p1 &&& (3 : Int32))), .val (.int ea), .val (.int eb), .unset, .unset, .unset, .unset] [])) _
        refine XS.iloadN X0.here hx rfl (hb hby at_44) rfl ?_
        show Steps p.tables e below (s₁.setTop (mkF m 45 #[.val (.int p1), .val (.int p2), .val (.int p3), .val (.int p4), .val (.int p5), .val (.int (p1 &&& (3 : Int32))), .val (.int ea), .val (.int eb), .unset, .unset, .unset, .unset] [(.int p4)])) _
        refine XS.istore X0.here hx rfl (hb hby at_45) rfl (l' := #[.val (.int p1), .val (.int p2), .val (.int p3), .val (.int p4), .val (.int p5), .val (.int (p1 &&& (3 : Int32))), .val (.int ea), .val (.int eb), .val (.int p4), .unset, .unset, .unset]) rfl ?_
        show Steps p.tables e below (s₁.setTop (mkF m 47 #[.val (.int p1), .val (.int p2), .val (.int p3), .val (.int p4), .val (.int p5), .val (.int (p1 &&& (3 : Int32))), .val (.int ea), .val (.int eb), .val (.int p4), .unset, .unset, .unset] [])) _
        exact k
      exact J47 ea eb p4
    · refine own_go (b := s₁.setTop (mkF m 47 #[.val (.int p1), .val (.int p2), .val (.int p3), .val (.int p4), .val (.int p5), .val (.int (p1 &&& (3 : Int32))), .val (.int ea), .val (.int eb), .val (.int (-1 : Int32)), .unset, .unset, .unset] [])) (fun t k => ?_) ?_
      · show Steps p.tables e below (s₁.setTop (mkF m 37 #[.val (.int p1), .val (.int p2), .val (.int p3), .val (.int p4), .val (.int p5), .val (.int (p1 &&& (3 : Int32))), .val (.int ea), .val (.int eb), .unset, .unset, .unset, .unset] [(.int (p5 &&& (4 : Int32)))])) _
        refine XS.ifNo X0.here hx rfl (hb hby at_37) rfl ((if0 _ _).trans (feq hc37).1) ?_
        show Steps p.tables e below (s₁.setTop (mkF m 40 #[.val (.int p1), .val (.int p2), .val (.int p3), .val (.int p4), .val (.int p5), .val (.int (p1 &&& (3 : Int32))), .val (.int ea), .val (.int eb), .unset, .unset, .unset, .unset] [])) _
        refine XS.iconst X0.here hx rfl (hb hby at_40) ?_
        show Steps p.tables e below (s₁.setTop (mkF m 41 #[.val (.int p1), .val (.int p2), .val (.int p3), .val (.int p4), .val (.int p5), .val (.int (p1 &&& (3 : Int32))), .val (.int ea), .val (.int eb), .unset, .unset, .unset, .unset] [(.int (-1 : Int32))])) _
        refine XS.goto X0.here hx rfl (pc0 := 41) (pc' := 45) rfl (hb hby at_41) (by decide) (by decide) ?_
        show Steps p.tables e below (s₁.setTop (mkF m 45 #[.val (.int p1), .val (.int p2), .val (.int p3), .val (.int p4), .val (.int p5), .val (.int (p1 &&& (3 : Int32))), .val (.int ea), .val (.int eb), .unset, .unset, .unset, .unset] [(.int (-1 : Int32))])) _
        refine XS.istore X0.here hx rfl (hb hby at_45) rfl (l' := #[.val (.int p1), .val (.int p2), .val (.int p3), .val (.int p4), .val (.int p5), .val (.int (p1 &&& (3 : Int32))), .val (.int ea), .val (.int eb), .val (.int (-1 : Int32)), .unset, .unset, .unset]) rfl ?_
        show Steps p.tables e below (s₁.setTop (mkF m 47 #[.val (.int p1), .val (.int p2), .val (.int p3), .val (.int p4), .val (.int p5), .val (.int (p1 &&& (3 : Int32))), .val (.int ea), .val (.int eb), .val (.int (-1 : Int32)), .unset, .unset, .unset] [])) _
        exact k
      exact J47 ea eb (-1 : Int32)
  have J19 : ∀ (ea : Int32), own_Go p e below s (Q0 p1 p2 p3 p4 p5 h0 n0) 16 128 (s₁.setTop (mkF m 19 #[.val (.int p1), .val (.int p2), .val (.int p3), .val (.int p4), .val (.int p5), .val (.int (p1 &&& (3 : Int32))), .val (.int ea), .unset, .unset, .unset, .unset, .unset] [])) := by
    intro ea
    refine own_go (b := s₁.setTop (mkF m 23 #[.val (.int p1), .val (.int p2), .val (.int p3), .val (.int p4), .val (.int p5), .val (.int (p1 &&& (3 : Int32))), .val (.int ea), .unset, .unset, .unset, .unset, .unset] [(.int (p5 &&& (2 : Int32)))])) (fun t k => ?_) ?_
    · show Steps p.tables e below (s₁.setTop (mkF m 19 #[.val (.int p1), .val (.int p2), .val (.int p3), .val (.int p4), .val (.int p5), .val (.int (p1 &&& (3 : Int32))), .val (.int ea), .unset, .unset, .unset, .unset, .unset] [])) _
      refine XS.iload X0.here hx rfl (hb hby at_19) rfl ?_
      show Steps p.tables e below (s₁.setTop (mkF m 21 #[.val (.int p1), .val (.int p2), .val (.int p3), .val (.int p4), .val (.int p5), .val (.int (p1 &&& (3 : Int32))), .val (.int ea), .unset, .unset, .unset, .unset, .unset] [(.int p5)])) _
      refine XS.iconst X0.here hx rfl (hb hby at_21) ?_
      show Steps p.tables e below (s₁.setTop (mkF m 22 #[.val (.int p1), .val (.int p2), .val (.int p3), .val (.int p4), .val (.int p5), .val (.int (p1 &&& (3 : Int32))), .val (.int ea), .unset, .unset, .unset, .unset, .unset] [(.int (2 : Int32)), (.int p5)])) _
      refine XS.iand X0.here hx rfl (hb hby at_22) rfl ?_
      show Steps p.tables e below (s₁.setTop (mkF m 23 #[.val (.int p1), .val (.int p2), .val (.int p3), .val (.int p4), .val (.int p5), .val (.int (p1 &&& (3 : Int32))), .val (.int ea), .unset, .unset, .unset, .unset, .unset] [(.int (p5 &&& (2 : Int32)))])) _
      exact k
    by_cases hc23 : (p5 &&& (2 : Int32)) = (0 : Int32)
    · refine own_go (b := s₁.setTop (mkF m 33 #[.val (.int p1), .val (.int p2), .val (.int p3), .val (.int p4), .val (.int p5), .val (.int (p1 &&& (3 : Int32))), .val (.int ea), .val (.int p3), .unset, .unset, .unset, .unset] [])) (fun t k => ?_) ?_
      · show Steps p.tables e below (s₁.setTop (mkF m 23 #[.val (.int p1), .val (.int p2), .val (.int p3), .val (.int p4), .val (.int p5), .val (.int (p1 &&& (3 : Int32))), .val (.int ea), .unset, .unset, .unset, .unset, .unset] [(.int (p5 &&& (2 : Int32)))])) _
        refine XS.ifYes X0.here hx rfl (pc0 := 23) (pc' := 30) rfl (hb hby at_23) rfl ((if0 _ _).trans (teq hc23).1) (by decide) (by decide) ?_
        show Steps p.tables e below (s₁.setTop (mkF m 30 #[.val (.int p1), .val (.int p2), .val (.int p3), .val (.int p4), .val (.int p5), .val (.int (p1 &&& (3 : Int32))), .val (.int ea), .unset, .unset, .unset, .unset, .unset] [])) _
        refine XS.iloadN X0.here hx rfl (hb hby at_30) rfl ?_
        show Steps p.tables e below (s₁.setTop (mkF m 31 #[.val (.int p1), .val (.int p2), .val (.int p3), .val (.int p4), .val (.int p5), .val (.int (p1 &&& (3 : Int32))), .val (.int ea), .unset, .unset, .unset, .unset, .unset] [(.int p3)])) _
        refine XS.istore X0.here hx rfl (hb hby at_31) rfl (l' := #[.val (.int p1), .val (.int p2), .val (.int p3), .val (.int p4), .val (.int p5), .val (.int (p1 &&& (3 : Int32))), .val (.int ea), .val (.int p3), .unset, .unset, .unset, .unset]) rfl ?_
        show Steps p.tables e below (s₁.setTop (mkF m 33 #[.val (.int p1), .val (.int p2), .val (.int p3), .val (.int p4), .val (.int p5), .val (.int (p1 &&& (3 : Int32))), .val (.int ea), .val (.int p3), .unset, .unset, .unset, .unset] [])) _
        exact k
      exact J33 ea p3
    · refine own_go (b := s₁.setTop (mkF m 33 #[.val (.int p1), .val (.int p2), .val (.int p3), .val (.int p4), .val (.int p5), .val (.int (p1 &&& (3 : Int32))), .val (.int ea), .val (.int (-1 : Int32)), .unset, .unset, .unset, .unset] [])) (fun t k => ?_) ?_
      · show Steps p.tables e below (s₁.setTop (mkF m 23 #[.val (.int p1), .val (.int p2), .val (.int p3), .val (.int p4), .val (.int p5), .val (.int (p1 &&& (3 : Int32))), .val (.int ea), .unset, .unset, .unset, .unset, .unset] [(.int (p5 &&& (2 : Int32)))])) _
        refine XS.ifNo X0.here hx rfl (hb hby at_23) rfl ((if0 _ _).trans (feq hc23).1) ?_
        show Steps p.tables e below (s₁.setTop (mkF m 26 #[.val (.int p1), .val (.int p2), .val (.int p3), .val (.int p4), .val (.int p5), .val (.int (p1 &&& (3 : Int32))), .val (.int ea), .unset, .unset, .unset, .unset, .unset] [])) _
        refine XS.iconst X0.here hx rfl (hb hby at_26) ?_
        show Steps p.tables e below (s₁.setTop (mkF m 27 #[.val (.int p1), .val (.int p2), .val (.int p3), .val (.int p4), .val (.int p5), .val (.int (p1 &&& (3 : Int32))), .val (.int ea), .unset, .unset, .unset, .unset, .unset] [(.int (-1 : Int32))])) _
        refine XS.goto X0.here hx rfl (pc0 := 27) (pc' := 31) rfl (hb hby at_27) (by decide) (by decide) ?_
        show Steps p.tables e below (s₁.setTop (mkF m 31 #[.val (.int p1), .val (.int p2), .val (.int p3), .val (.int p4), .val (.int p5), .val (.int (p1 &&& (3 : Int32))), .val (.int ea), .unset, .unset, .unset, .unset, .unset] [(.int (-1 : Int32))])) _
        refine XS.istore X0.here hx rfl (hb hby at_31) rfl (l' := #[.val (.int p1), .val (.int p2), .val (.int p3), .val (.int p4), .val (.int p5), .val (.int (p1 &&& (3 : Int32))), .val (.int ea), .val (.int (-1 : Int32)), .unset, .unset, .unset, .unset]) rfl ?_
        show Steps p.tables e below (s₁.setTop (mkF m 33 #[.val (.int p1), .val (.int p2), .val (.int p3), .val (.int p4), .val (.int p5), .val (.int (p1 &&& (3 : Int32))), .val (.int ea), .val (.int (-1 : Int32)), .unset, .unset, .unset, .unset] [])) _
        exact k
      exact J33 ea (-1 : Int32)
  refine own_go (b := s₁.setTop (mkF m 9 #[.val (.int p1), .val (.int p2), .val (.int p3), .val (.int p4), .val (.int p5), .val (.int (p1 &&& (3 : Int32))), .unset, .unset, .unset, .unset, .unset, .unset] [(.int (p5 &&& (1 : Int32)))])) (fun t k => ?_) ?_
  · show Steps p.tables e below (s₁.setTop (mkF m 0 #[.val (.int p1), .val (.int p2), .val (.int p3), .val (.int p4), .val (.int p5), .unset, .unset, .unset, .unset, .unset, .unset, .unset] [])) _
    refine XS.iloadN X0.here hx rfl (hb hby at_0) rfl ?_
    show Steps p.tables e below (s₁.setTop (mkF m 1 #[.val (.int p1), .val (.int p2), .val (.int p3), .val (.int p4), .val (.int p5), .unset, .unset, .unset, .unset, .unset, .unset, .unset] [(.int p1)])) _
    refine XS.iconst X0.here hx rfl (hb hby at_1) ?_
    show Steps p.tables e below (s₁.setTop (mkF m 2 #[.val (.int p1), .val (.int p2), .val (.int p3), .val (.int p4), .val (.int p5), .unset, .unset, .unset, .unset, .unset, .unset, .unset] [(.int (3 : Int32)), (.int p1)])) _
    refine XS.iand X0.here hx rfl (hb hby at_2) rfl ?_
    show Steps p.tables e below (s₁.setTop (mkF m 3 #[.val (.int p1), .val (.int p2), .val (.int p3), .val (.int p4), .val (.int p5), .unset, .unset, .unset, .unset, .unset, .unset, .unset] [(.int (p1 &&& (3 : Int32)))])) _
    refine XS.istore X0.here hx rfl (hb hby at_3) rfl (l' := #[.val (.int p1), .val (.int p2), .val (.int p3), .val (.int p4), .val (.int p5), .val (.int (p1 &&& (3 : Int32))), .unset, .unset, .unset, .unset, .unset, .unset]) rfl ?_
    show Steps p.tables e below (s₁.setTop (mkF m 5 #[.val (.int p1), .val (.int p2), .val (.int p3), .val (.int p4), .val (.int p5), .val (.int (p1 &&& (3 : Int32))), .unset, .unset, .unset, .unset, .unset, .unset] [])) _
    refine XS.iload X0.here hx rfl (hb hby at_5) rfl ?_
    show Steps p.tables e below (s₁.setTop (mkF m 7 #[.val (.int p1), .val (.int p2), .val (.int p3), .val (.int p4), .val (.int p5), .val (.int (p1 &&& (3 : Int32))), .unset, .unset, .unset, .unset, .unset, .unset] [(.int p5)])) _
    refine XS.iconst X0.here hx rfl (hb hby at_7) ?_
    show Steps p.tables e below (s₁.setTop (mkF m 8 #[.val (.int p1), .val (.int p2), .val (.int p3), .val (.int p4), .val (.int p5), .val (.int (p1 &&& (3 : Int32))), .unset, .unset, .unset, .unset, .unset, .unset] [(.int (1 : Int32)), (.int p5)])) _
    refine XS.iand X0.here hx rfl (hb hby at_8) rfl ?_
    show Steps p.tables e below (s₁.setTop (mkF m 9 #[.val (.int p1), .val (.int p2), .val (.int p3), .val (.int p4), .val (.int p5), .val (.int (p1 &&& (3 : Int32))), .unset, .unset, .unset, .unset, .unset, .unset] [(.int (p5 &&& (1 : Int32)))])) _
    exact k
  by_cases hc9 : (p5 &&& (1 : Int32)) = (0 : Int32)
  · refine own_go (b := s₁.setTop (mkF m 19 #[.val (.int p1), .val (.int p2), .val (.int p3), .val (.int p4), .val (.int p5), .val (.int (p1 &&& (3 : Int32))), .val (.int p2), .unset, .unset, .unset, .unset, .unset] [])) (fun t k => ?_) ?_
    · show Steps p.tables e below (s₁.setTop (mkF m 9 #[.val (.int p1), .val (.int p2), .val (.int p3), .val (.int p4), .val (.int p5), .val (.int (p1 &&& (3 : Int32))), .unset, .unset, .unset, .unset, .unset, .unset] [(.int (p5 &&& (1 : Int32)))])) _
      refine XS.ifYes X0.here hx rfl (pc0 := 9) (pc' := 16) rfl (hb hby at_9) rfl ((if0 _ _).trans (teq hc9).1) (by decide) (by decide) ?_
      show Steps p.tables e below (s₁.setTop (mkF m 16 #[.val (.int p1), .val (.int p2), .val (.int p3), .val (.int p4), .val (.int p5), .val (.int (p1 &&& (3 : Int32))), .unset, .unset, .unset, .unset, .unset, .unset] [])) _
      refine XS.iloadN X0.here hx rfl (hb hby at_16) rfl ?_
      show Steps p.tables e below (s₁.setTop (mkF m 17 #[.val (.int p1), .val (.int p2), .val (.int p3), .val (.int p4), .val (.int p5), .val (.int (p1 &&& (3 : Int32))), .unset, .unset, .unset, .unset, .unset, .unset] [(.int p2)])) _
      refine XS.istore X0.here hx rfl (hb hby at_17) rfl (l' := #[.val (.int p1), .val (.int p2), .val (.int p3), .val (.int p4), .val (.int p5), .val (.int (p1 &&& (3 : Int32))), .val (.int p2), .unset, .unset, .unset, .unset, .unset]) rfl ?_
      show Steps p.tables e below (s₁.setTop (mkF m 19 #[.val (.int p1), .val (.int p2), .val (.int p3), .val (.int p4), .val (.int p5), .val (.int (p1 &&& (3 : Int32))), .val (.int p2), .unset, .unset, .unset, .unset, .unset] [])) _
      exact k
    exact J19 p2
  · refine own_go (b := s₁.setTop (mkF m 19 #[.val (.int p1), .val (.int p2), .val (.int p3), .val (.int p4), .val (.int p5), .val (.int (p1 &&& (3 : Int32))), .val (.int (-1 : Int32)), .unset, .unset, .unset, .unset, .unset] [])) (fun t k => ?_) ?_
    · show Steps p.tables e below (s₁.setTop (mkF m 9 #[.val (.int p1), .val (.int p2), .val (.int p3), .val (.int p4), .val (.int p5), .val (.int (p1 &&& (3 : Int32))), .unset, .unset, .unset, .unset, .unset, .unset] [(.int (p5 &&& (1 : Int32)))])) _
      refine XS.ifNo X0.here hx rfl (hb hby at_9) rfl ((if0 _ _).trans (feq hc9).1) ?_
      show Steps p.tables e below (s₁.setTop (mkF m 12 #[.val (.int p1), .val (.int p2), .val (.int p3), .val (.int p4), .val (.int p5), .val (.int (p1 &&& (3 : Int32))), .unset, .unset, .unset, .unset, .unset, .unset] [])) _
      refine XS.iconst X0.here hx rfl (hb hby at_12) ?_
      show Steps p.tables e below (s₁.setTop (mkF m 13 #[.val (.int p1), .val (.int p2), .val (.int p3), .val (.int p4), .val (.int p5), .val (.int (p1 &&& (3 : Int32))), .unset, .unset, .unset, .unset, .unset, .unset] [(.int (-1 : Int32))])) _
      refine XS.goto X0.here hx rfl (pc0 := 13) (pc' := 17) rfl (hb hby at_13) (by decide) (by decide) ?_
      show Steps p.tables e below (s₁.setTop (mkF m 17 #[.val (.int p1), .val (.int p2), .val (.int p3), .val (.int p4), .val (.int p5), .val (.int (p1 &&& (3 : Int32))), .unset, .unset, .unset, .unset, .unset, .unset] [(.int (-1 : Int32))])) _
      refine XS.istore X0.here hx rfl (hb hby at_17) rfl (l' := #[.val (.int p1), .val (.int p2), .val (.int p3), .val (.int p4), .val (.int p5), .val (.int (p1 &&& (3 : Int32))), .val (.int (-1 : Int32)), .unset, .unset, .unset, .unset, .unset]) rfl ?_
      show Steps p.tables e below (s₁.setTop (mkF m 19 #[.val (.int p1), .val (.int p2), .val (.int p3), .val (.int p4), .val (.int p5), .val (.int (p1 &&& (3 : Int32))), .val (.int (-1 : Int32)), .unset, .unset, .unset, .unset, .unset] [])) _
      exact k
    exact J19 (-1 : Int32)
set_option maxRecDepth 65536 in
set_option maxHeartbeats 40000000 in
theorem comes_1 {Post : Tables → Env → Array Value → State → Outcome → State → Prop} (hpost : ∀ tb e args s v u, (limb_1_1.after args s (.returned v) u = true ∧ limb_1_2.after args s (.returned v) u = true ∧ True) → FrameEnd s (.returned v) u (Jvm.fieldLocs frame_1_writes args s ++ Jvm.arrayLocs frame_1_arrays args s ++ Jvm.staticLocs frame_1_statics s) 16 128 → Post tb e args s (.returned v) u) :
    ArmFor flags0 classFile x code maxLocals ret World_1 tables_1 room_1 Calls_1 rest_1 Pre_1 Post := by
  intro l hfl _ _ p e ha hc hk s m args below hf hA hF happ hP
  obtain ⟨hcalls, hrest, hpre⟩ := hP
  obtain ⟨-, -, -, hnamed, -, -, -, hat⟩ := (Spec.applies_iff hf).mp happ
  obtain ⟨hg, hn⟩ := and_e (Cond.before_iff.mp (show (Jvm.Cond.and given_1 narrow_1).before args s = true from hpre))
  obtain ⟨g0, r0⟩ := and_e hg
  obtain ⟨g1, r1⟩ := and_e r0
  obtain ⟨g2, r2⟩ := and_e r1
  obtain ⟨g3, r3⟩ := and_e r2
  obtain ⟨g4, r4⟩ := and_e r3
  obtain ⟨w0, w1, w2, w3, w4, rfl⟩ : ∃ w0 w1 w2 w3 w4 : Value, args = #[w0, w1, w2, w3, w4] := by
    have hs : args.size = 5 := by simpa [Cond.value, given_1] using g0
    obtain ⟨L⟩ := args
    match L, hs with
    | [w0, w1, w2, w3, w4], _ => exact ⟨w0, w1, w2, w3, w4, rfl⟩
  have hw := fun d (hd : d ∈ tables_1) => atoms_spec (ws := Jvm.Cond.code x code maxLocals ret :: tables_1) hat d (List.mem_cons_of_mem _ hd)
  obtain ⟨i0, y0⟩ := is_v g1
  obtain rfl : w0 = (.int i0) := Option.some.inj y0
  obtain ⟨i1, y1⟩ := is_v g2
  obtain rfl : w1 = (.int i1) := Option.some.inj y1
  obtain ⟨i2, y2⟩ := is_v g3
  obtain rfl : w2 = (.int i2) := Option.some.inj y2
  obtain ⟨i3, y3⟩ := is_v g4
  obtain rfl : w3 = (.int i3) := Option.some.inj y3
  obtain ⟨i4, y4⟩ := is_v r4
  obtain rfl : w4 = (.int i4) := Option.some.inj y4
  obtain ⟨n, o, h1, h2, h3, _, L, rfl, ⟨rfl, N⟩, hq⟩ := rm0 l s _ hw tables_1 i0 i1 i2 i3 i4 s.heap s.heap.size (Nat.le_refl _) p e ha hc hk s m _ below hf ((Spec.applies_iff_loose hf).mp happ).1 ⟨rfl, State.Warmed39.refl s, rfl⟩ trivial
  refine ⟨n, _, h1, h2, h3, hpost _ _ _ _ _ _ ⟨Cond.after_iff.mpr rfl, Cond.after_iff.mpr (eq_i res_at (Term.int_eval (1)) rfl), trivial⟩ ⟨hq.1, hq.2.1, (hq.2.2.sift fun y hy => Or.inr (N y hy)).mono (by decide) (by decide)⟩⟩
theorem main_1_1 : Claimed_1_1 := comes_1 fun _ _ _ _ _ _ h hF => ⟨h.1, hF⟩
theorem main_1_2 : Claimed_1_2 := comes_1 fun _ _ _ _ _ _ h hF => ⟨h.2.1, hF⟩
end Jvm.Pilot.@@N@@
namespace Jvm.Pilot.@@N@@
open Jvm Jvm.ClassFile Sem Op Lib Jvm.Free Jvm.Stand Jvm.Pilot.@@N@@.Jvm.D
/-! MADE BY PROGRAM (witnessworld.py) out of the Statement's table words and the real class files: 10 classes; the members and pool entries that the words name. The judged class is class 1, her method 1. -/
namespace start1
open Jvm.ClassFile
def u (s : String) : CpInfo := .utf8 (stringToUtf16 s)
/-- a pool by its gaps: so many unusable entries, then the entry; so many at the end -/
def gap : Nat → List CpInfo → List CpInfo
  | 0, r => r
  | n + 1, r => .unusable :: gap n r
def poolList (es : List (Nat × CpInfo)) (last : Nat) : List CpInfo := es.foldr (fun e r => gap e.1 (e.2 :: r)) (gap last [])
def pool (es : List (Nat × CpInfo)) (last : Nat) : Array CpInfo := ⟨poolList es last⟩
def fileOf (pool : Array CpInfo) (this : Nat) (attrs : Array Attribute := #[]) (ms : Array MethodInfo := #[]) (fl : Nat := 33) (sup : Nat := 0) (ifs : Array Nat := #[]) (fds : Array FieldInfo := #[]) : ClassFile where
  minorVersion := 0
  majorVersion := 65
  constantPool := pool
  accessFlags := fl
  thisClass := this
  superClass := sup
  interfaces := ifs
  fields := fds
  methods := ms
  attributes := attrs
def plain (name : String) (sup : Option ClassId) : Class where
  name := name
  kind := .ordinary
  loader := none
  accessFlags := 33
  super := sup
  interfaces := #[]
  cf := none
  fields := #[]
  methods := #[]
  instanceTypes := #[]
  staticTypes := #[]
  resolved := #[]
  callSites := []
  init := .initialized
  statics := none
  mirror := none

def pool0 : Array CpInfo := pool [(5, u "<init>"), (0, u "()V"), (1, .class_ 10), (1, u "java/lang/Object")] 113

def k0m0 : Method := { name := "<init>", desc := "()V", sig := { parameters := [], returnType := none }, accessFlags := 1, code := none }
/-- java/lang/Object -/
def k0 : Class := { plain "java/lang/Object" none with
  accessFlags := 33
  interfaces := #[]
  cf := some (fileOf pool0 8 #[] #[{ accessFlags := 1, nameIndex := 5, descriptorIndex := 6, attributes := #[] }] 33 0 #[] #[])
  fields := #[]
  methods := #[k0m0]
  instanceTypes := #[]
  staticTypes := #[]
  resolved := Array.replicate 124 none
  statics := none }

def pool1 : Array CpInfo := pool [(2, .class_ 4), (1, u "java/lang/Object"), (0, u "<init>"), (0, u "()V"), (0, .methodref 8 9), (0, .class_ 10), (0, .nameAndType 11 12), (0, u "com/example/landrace_ledger/landraceledger/core/GenotypeEncoding"), (0, u "isMissing"), (0, u "([I)Z"), (0, .class_ 14), (0, u "com/example/landrace_ledger/landraceledger/core/GenotypeEncodingIsMissingPinLaw"), (2, u "law"), (0, u "(IIIII)Z")] 5

def k1m0 : Method := { name := "<init>", desc := "()V", sig := { parameters := [], returnType := none }, accessFlags := 2, code := none }
def k1c1 : Code := { maxStack := 3, maxLocals := 12, code := code, exceptionTable := #[], attributes := #[] }
def k1m1 : Method := { name := "law", desc := "(IIIII)Z", sig := { parameters := [.int, .int, .int, .int, .int], returnType := some .boolean }, accessFlags := 9, code := some k1c1 }
/-- com/example/landrace_ledger/landraceledger/core/GenotypeEncodingIsMissingPinLaw -/
def k1 : Class := { plain "com/example/landrace_ledger/landraceledger/core/GenotypeEncodingIsMissingPinLaw" (some 0) with
  accessFlags := 49
  interfaces := #[]
  cf := some (fileOf pool1 13 #[] #[{ accessFlags := 2, nameIndex := 5, descriptorIndex := 6, attributes := #[] }, { accessFlags := 9, nameIndex := 17, descriptorIndex := 18, attributes := #[] }] 49 2 #[] #[])
  fields := #[]
  methods := #[k1m0, k1m1]
  instanceTypes := #[]
  staticTypes := #[]
  resolved := Array.replicate 24 none
  statics := none }

def pool2 : Array CpInfo := pool [(2, .class_ 4), (1, u "java/lang/Object"), (0, u "<init>"), (0, u "()V"), (0, .class_ 8), (0, u "java/lang/Record")] 13

def k2m0 : Method := { name := "<init>", desc := "()V", sig := { parameters := [], returnType := none }, accessFlags := 4, code := none }
/-- java/lang/Record -/
def k2 : Class := { plain "java/lang/Record" (some 0) with
  accessFlags := 1057
  interfaces := #[]
  cf := some (fileOf pool2 7 #[] #[{ accessFlags := 4, nameIndex := 5, descriptorIndex := 6, attributes := #[] }] 1057 2 #[] #[])
  fields := #[]
  methods := #[k2m0]
  instanceTypes := #[]
  staticTypes := #[]
  resolved := Array.replicate 22 none
  statics := none }

def pool3 : Array CpInfo := pool [(2, .class_ 4), (1, u "java/lang/Record"), (3, u "sepPhased"), (1, .class_ 12), (1, u "com/example/landrace_ledger/landraceledger/core/GenotypeEncoding"), (3, u "sepUnphased"), (1, u "unknownString"), (2, u "expandHomozygotes"), (0, u "Z"), (2, u "Ljava/lang/String;"), (6, u "V2_DEFAULT"), (0, u "Lcom/example/landrace_ledger/landraceledger/core/GenotypeEncoding;"), (6, u "V1_DEFAULT"), (26, u "isMissing"), (0, u "([I)Z"), (81, u "MISSING"), (0, u "I"), (2, u "MAX_MARK_LENGTH"), (1, u "V1_EMPTY_STRING")] 68

def k3c0 : Code := { maxStack := 2, maxLocals := 5, code := prog_1_method_6_code, exceptionTable := #[], attributes := #[] }
def k3m0 : Method := { name := "isMissing", desc := "([I)Z", sig := { parameters := [(.array .int)], returnType := some .boolean }, accessFlags := 8, code := some k3c0 }
/-- com/example/landrace_ledger/landraceledger/core/GenotypeEncoding -/
def k3 : Class := { plain "com/example/landrace_ledger/landraceledger/core/GenotypeEncoding" (some 2) with
  accessFlags := 49
  interfaces := #[]
  cf := some (fileOf pool3 10 #[] #[{ accessFlags := 8, nameIndex := 67, descriptorIndex := 68, attributes := #[] }] 49 2 #[] #[{ accessFlags := 18, nameIndex := 21, descriptorIndex := 22, attributes := #[] }, { accessFlags := 18, nameIndex := 8, descriptorIndex := 25, attributes := #[] }, { accessFlags := 18, nameIndex := 16, descriptorIndex := 25, attributes := #[] }, { accessFlags := 18, nameIndex := 18, descriptorIndex := 25, attributes := #[] }, { accessFlags := 25, nameIndex := 150, descriptorIndex := 151, attributes := #[] }, { accessFlags := 25, nameIndex := 32, descriptorIndex := 33, attributes := #[] }, { accessFlags := 25, nameIndex := 40, descriptorIndex := 33, attributes := #[] }, { accessFlags := 25, nameIndex := 154, descriptorIndex := 151, attributes := #[] }, { accessFlags := 26, nameIndex := 156, descriptorIndex := 25, attributes := #[] }])
  fields := #[{ name := "expandHomozygotes", type := .boolean, accessFlags := 18, slot := 0, constantValue := 0 }, { name := "sepPhased", type := (.object "java/lang/String"), accessFlags := 18, slot := 1, constantValue := 0 }, { name := "sepUnphased", type := (.object "java/lang/String"), accessFlags := 18, slot := 2, constantValue := 0 }, { name := "unknownString", type := (.object "java/lang/String"), accessFlags := 18, slot := 3, constantValue := 0 }, { name := "MISSING", type := .int, accessFlags := 25, slot := 0, constantValue := 0 }, { name := "V2_DEFAULT", type := (.object "com/example/landrace_ledger/landraceledger/core/GenotypeEncoding"), accessFlags := 25, slot := 1, constantValue := 0 }, { name := "V1_DEFAULT", type := (.object "com/example/landrace_ledger/landraceledger/core/GenotypeEncoding"), accessFlags := 25, slot := 2, constantValue := 0 }, { name := "MAX_MARK_LENGTH", type := .int, accessFlags := 25, slot := 3, constantValue := 0 }, { name := "V1_EMPTY_STRING", type := (.object "java/lang/String"), accessFlags := 26, slot := 4, constantValue := 0 }]
  methods := #[k3m0]
  instanceTypes := #[.boolean, (.object "java/lang/String"), (.object "java/lang/String"), (.object "java/lang/String")]
  staticTypes := #[.int, (.object "com/example/landrace_ledger/landraceledger/core/GenotypeEncoding"), (.object "com/example/landrace_ledger/landraceledger/core/GenotypeEncoding"), .int, (.object "java/lang/String")]
  resolved := Array.replicate 225 none
  statics := none }

def pool4 : Array CpInfo := pool [(1, u "java/lang/Cloneable"), (0, .class_ 1), (0, u "java/lang/Object"), (0, .class_ 3)] 3

/-- java/lang/Cloneable -/
def k4 : Class := { plain "java/lang/Cloneable" (some 0) with
  accessFlags := 1537
  interfaces := #[]
  cf := some (fileOf pool4 2 #[] #[] 1537 4 #[] #[])
  fields := #[]
  methods := #[]
  instanceTypes := #[]
  staticTypes := #[]
  resolved := Array.replicate 8 none
  statics := none }

def pool5 : Array CpInfo := pool [(1, u "java/io/Serializable"), (0, .class_ 1), (0, u "java/lang/Object"), (0, .class_ 3)] 3

/-- java/io/Serializable -/
def k5 : Class := { plain "java/io/Serializable" (some 0) with
  accessFlags := 1537
  interfaces := #[]
  cf := some (fileOf pool5 2 #[] #[] 1537 4 #[] #[])
  fields := #[]
  methods := #[]
  instanceTypes := #[]
  staticTypes := #[]
  resolved := Array.replicate 8 none
  statics := none }

/-- the primitive byte -/
def k6 : Class := { plain "byte" none with kind := .primitive 'B', accessFlags := 0x411 }
/-- [B -/
def k7 : Class := { plain "[B" (some 0) with kind := .array 6 .byte, interfaces := #[4, 5], accessFlags := 1041 }

/-- the primitive int -/
def k8 : Class := { plain "int" none with kind := .primitive 'I', accessFlags := 0x411 }
/-- [I -/
def k9 : Class := { plain "[I" (some 0) with kind := .array 8 .int, interfaces := #[4, 5], accessFlags := 1041 }

def heap : Heap := #[]
def classes : Array Class := #[k0, k1, k2, k3, k4, k5, k6, k7, k8, k9]
def interned : List (Array UInt16 × Addr) := []
def slotsUsed : Nat := 0
def theMethod : MethodId := ⟨1, 1⟩
def args0 : Array Value := #[.int 5, .int 1, .int 2, .int 3, .int 4]
def aboutOver (below : List Frame) : State where
  vm := { classes := classes, interned := interned.toArray }
  heap := heap
  slotsUsed := slotsUsed
  threads := #[{ frames := .invoking theMethod args0 :: below }]
def below0 : List Frame := [.native { method := ⟨0, 0⟩, args := #[] }]
def about1 : State := aboutOver below0
def p0 : Program := .bare "" "" ""
def e0 : Env := launch0.env 0 0 0
theorem w_frames : about1.frames = Frame.invoking theMethod args0 :: below0 := rfl
set_option maxRecDepth 65536 in
theorem w_args : argsFit about1.vm theMethod args0 = true := by decide +kernel
set_option maxRecDepth 65536 in
theorem w_heap : heapFits about1 = true := by decide +kernel
set_option maxRecDepth 65536 in
theorem w_runnable : about1.curStatus? = some .runnable := by decide +kernel
set_option maxRecDepth 65536 in
theorem w_alone : about1.alone = true := by decide +kernel
set_option maxRecDepth 65536 in
theorem w_named : about1.methodNamed? x = some theMethod := by decide +kernel
set_option maxRecDepth 65536 in
theorem w_hears : about1.hears theMethod below0 = true := by decide +kernel
set_option maxRecDepth 65536 in
theorem w_ripe : about1.ripe theMethod args0 below0 = true := by decide +kernel
theorem w_running : about1.status = .running := rfl
set_option maxRecDepth 65536 in
theorem w_room : about1.hasRoom e0.platform room_1 = true :=
  launch0.hasRoom_least _ room_1 (by decide +kernel) (by decide +kernel) (by decide +kernel) (by decide +kernel) (by decide +kernel) (by decide +kernel)
theorem allAtoms_all (ts : List Jvm.Cond) (a : Array Jvm.Value) (st : Jvm.State) : (allAtoms ts).before a st = ts.all (fun c => c.before a st) := by
  induction ts with
  | nil => rfl
  | cons c t ih =>
    show (Jvm.Cond.and c (allAtoms t)).before a st = _
    rw [Jvm.Cond.before_and, ih, List.all_cons]
def words1 : List Jvm.Cond := Jvm.Cond.code x code maxLocals ret :: tables_1
/-- a 'code' word, met by the world's own term for the bytes: nothing is compared byte by byte -/
theorem code_word {y : MethodName} {bytes : ByteArray} {mx : Nat} {rt : Option FieldType} {a : Array Value} {s : State} {m : MethodId} {meth : Method} {c : Code} (h1 : s.methodNamed? y = some m) (h2 : s.vm.method? m = some meth) (h3 : meth.code = some c) (h4 : c.code = bytes)
    (h5 : (c.maxLocals == mx && c.exceptionTable.isEmpty && decide (c.maxStack ≤ mostOperands) && decide (meth.sig.returnType = rt) && !meth.locks && decide (parseMethodDescriptor y.desc = some meth.sig)) = true) : (Jvm.Cond.code y bytes mx rt).before a s = true := by
  simp only [Bool.and_eq_true, beq_iff_eq, Bool.not_eq_true', decide_eq_true_eq] at h5
  obtain ⟨⟨⟨⟨⟨g1, g2⟩, g3⟩, g4⟩, g5⟩, g6⟩ := h5
  simp [Cond.before, Cond.holds, Cond.value, h1, h2, h3, h4, g1, g2, g3, g4, g5, g6]
def isCode : Jvm.Cond → Bool
  | .code _ _ _ _ => true
  | _ => false
theorem all_split {L : List Jvm.Cond} {P : Jvm.Cond → Bool} (h1 : L.all (fun c => isCode c || P c) = true) (h2 : ∀ c ∈ L.filter isCode, P c = true) : L.all P = true := by
  refine List.all_eq_true.mpr fun c hc => ?_
  have h := List.all_eq_true.mp h1 c hc
  rcases Bool.eq_false_or_eq_true (isCode c) with hi | hi
  · exact h2 c (List.mem_filter.mpr ⟨hc, hi⟩)
  · simpa [hi] using h
set_option maxRecDepth 65536 in
theorem w_c0 : (Jvm.Cond.code x code maxLocals ret).before args0 about1 = true := code_word (m := ⟨1, 1⟩) (meth := k1m1) (c := k1c1) (by decide +kernel) rfl rfl rfl (by decide +kernel)
set_option maxRecDepth 65536 in
theorem w_c1 : (Jvm.Cond.code ({ cls := "com/example/landrace_ledger/landraceledger/core/GenotypeEncoding", name := "isMissing", desc := "([I)Z" } : Jvm.MethodName) prog_1_method_6_code (5 : Nat) (Option.some Jvm.ClassFile.FieldType.boolean)).before args0 about1 = true := code_word (m := ⟨3, 0⟩) (meth := k3m0) (c := k3c0) (by decide +kernel) rfl rfl rfl (by decide +kernel)
def codes1 : List Jvm.Cond := [Jvm.Cond.code x code maxLocals ret, Jvm.Cond.code ({ cls := "com/example/landrace_ledger/landraceledger/core/GenotypeEncoding", name := "isMissing", desc := "([I)Z" } : Jvm.MethodName) prog_1_method_6_code (5 : Nat) (Option.some Jvm.ClassFile.FieldType.boolean)]
set_option maxRecDepth 65536 in
theorem codes_eq : words1.filter isCode = codes1 := rfl
theorem w_codes : ∀ c ∈ words1.filter isCode, c.before args0 about1 = true := by
  rw [codes_eq]
  intro c hc
  simp only [codes1, List.mem_cons, List.not_mem_nil, or_false] at hc
  rcases hc with rfl | rfl
  · exact w_c0
  · exact w_c1
set_option maxRecDepth 65536 in
theorem w_t1 : words1.all (fun c => isCode c || c.before args0 about1) = true := by decide +kernel
theorem w_tables : (allAtoms (Jvm.Cond.code x code maxLocals ret :: tables_1)).before args0 about1 = true := by
  rw [allAtoms_all]
  show words1.all (fun c => c.before args0 about1) = true
  refine all_split ?_ w_codes
  rw [w_t1]
set_option maxRecDepth 65536 in
theorem w_case : (Jvm.Cond.and given_1 narrow_1).before args0 about1 = true := by decide +kernel
theorem w_applies : (headSpec (Jvm.Cond.code x code maxLocals ret :: tables_1) room_1).applies x e0.platform about1 = true :=
  (Spec.applies_iff w_frames).mpr ⟨w_running, w_runnable, w_alone, w_named, w_hears, w_ripe, w_room, w_tables⟩
theorem atStart : AtStart classFile x code maxLocals ret World_1 tables_1 room_1 Calls_1 rest_1 Pre_1 launch0 p0 e0 about1 theMethod args0 below0 :=
  ⟨lists_1, trivial, launch0.admits_env _ _ _, launch0.least_env, fairChoices_fair.cas, fairChoices_fair.clock, w_frames, w_args, w_heap, w_applies, trivial, trivial, w_case⟩
end start1
theorem witness_1 : WitnessClaimed_1 := ⟨start1.p0, start1.e0, start1.about1, start1.theMethod, start1.args0, start1.below0, start1.atStart⟩
end Jvm.Pilot.@@N@@
