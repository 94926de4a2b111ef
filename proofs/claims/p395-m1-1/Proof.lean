import JvmDerived
import JvmDerived.Pilot.@@N@@Statement
import JvmDerived.Pilot.@@N@@Code
set_option linter.unusedVariables false
set_option linter.unusedSimpArgs false
@@BLOCK:NumsL.lean.txt@@
@@BLOCK:Masks.lean.txt@@
namespace Jvm.RoadKit
open Sem ClassFile Op Lib Jvm.Stand Jvm.Free Jvm.LawKit
section New
variable {p : Program} {l : Launch} {e : Env} {R : Room} {s : State} {m : MethodId} {args : Array Value} {below : List Frame} {meth : Method} {c : Code} {T : State} {locs : List Loc} {cells slots : Nat}
theorem retI (X : Stand p l e R s m args below meth c T locs cells slots) (hx : p.tables.exec = Jvm.exec) {pc : Nat} {Ls : Array Slot} {z : Int32} {rest : List Value} (hret : meth.sig.returnType = some .int) (hd : decode c.code pc = .ok (.ireturn, 1)) {fs : List Frame}
    (hl : ∀ (f : JFrame) (acts : List Action), f.method = m → f.locked = none → f.entered = [] → (doReturn e (T.setTop f) acts (some (.int z))).1 = T.setFrames fs) : Steps p.tables e below (T.setTop (mkF m pc Ls (.int z :: rest))) (T.setFrames fs) := by
  have hm' : T.vm.method? m = some meth := X.method'
  have hn : narrow .int (.int z) = .int z := rfl
  show Steps p.tables e below (T.setTop { method := m, pc := pc, locals := Ls, stack := _ :: rest, locked := none }) _
  jvm_step X.here [X.here.top, hx, hd, hm', hret, hn]
  first | (intro acts; rw [hl _ acts rfl rfl rfl]) | rw [hl _ _ rfl rfl rfl]
  exact Steps.refl _
end New
end Jvm.RoadKit
namespace Jvm.Pilot.@@N@@
open Jvm Jvm.ClassFile Sem Op Lib Jvm.Free Jvm.Stand Jvm.LawKit Jvm.RoadKit Bundle Jvm.Pilot.@@N@@.Jvm.D
abbrev own_Go (p : Program) (e : Env) (below : List Frame) (s : State) (Q : Option Value → Heap → List Loc → Prop) (cs ss : Nat) (a : State) : Prop := ∃ (t : State) (o : Outcome), Steps p.tables e below a t ∧ t.status = .running ∧ Ended t below o ∧ ∃ (v : Option Value) (L : List Loc), o = .returned v ∧ Q v t.heap L ∧ FrameEnd s o t L cs ss
section Own
variable {p : Program} {l : Launch} {e : Env} {R : Room} {s : State} {m : MethodId} {args : Array Value} {below : List Frame} {meth : Method} {c : Code} {T : State} {locs : List Loc} {cells slots : Nat} {Q : Option Value → Heap → List Loc → Prop} {cs ss : Nat}
theorem own_go {a b : State} (h : ∀ t, Steps p.tables e below b t → Steps p.tables e below a t) (g : own_Go p e below s Q cs ss b) : own_Go p e below s Q cs ss a := by
  obtain ⟨t, o, h1, h2⟩ := g
  exact ⟨t, o, h t h1, h2⟩
theorem own_end (X : Stand p l e R s m args below meth c T locs cells slots) (hlk : meth.locks = false) {v : Option Value} (hv : meth.sig.returnType = none → v = none) {a : State}
    (hs : ∀ fs, (∀ (f : JFrame) (acts : List Action), f.method = m → f.locked = none → f.entered = [] → (doReturn e (T.setTop f) acts v).1 = T.setFrames fs) → Steps p.tables e below a (T.setFrames fs))
    {h : Heap} (eT : T.heap = h) (hq : Q v h locs) (h1 : cells ≤ cs) (h2 : slots ≤ ss) : own_Go p e below s Q cs ss a := by
  obtain ⟨fs, hr, hrun, hended, hW, hsame⟩ := X.leave hv hlk
  subst eT
  exact ⟨_, _, hs fs hr, hrun, hended, _, _, rfl, hq, ⟨_, rfl⟩, hW, hsame.mono h1 h2⟩
end Own
theorem own_hin {n : Nat} {cl : Cell} {j : Int32} (S : cl.slots.size = n) (h : ¬ j < 0 ∧ j.toNatClampNeg < n) : ¬ (j < 0 ∨ cl.slots.size ≤ j.toNatClampNeg) := by
  rw [S]; exact fun q => q.elim h.1 (fun u => absurd h.2 (Nat.not_lt.mpr u))
theorem own_has {cl : Cell} {xs : List Int32} {n : Nat} (H : Has cl (xs.map Value.int) (.int 0)) (S : cl.slots.size = n) : ∀ i, i < n → cl.slots[i]? = some (.int (xs.getD i 0)) := by
  intro i hi
  rw [H i (by rw [S]; exact hi)]
  simp only [List.getD_eq_getElem?_getD, List.getElem?_map]
  cases xs[i]? <;> rfl
theorem own_hasL {cl : Cell} {xs : List Int64} {n : Nat} (H : Has cl (xs.map Value.long) (.long 0)) (S : cl.slots.size = n) : ∀ i, i < n → cl.slots[i]? = some (.long (xs.getD i 0)) := by
  intro i hi
  rw [H i (by rw [S]; exact hi)]
  simp only [List.getD_eq_getElem?_getD, List.getElem?_map]
  cases xs[i]? <;> rfl
def own_in_0 (u1 : Int32) (u2 : Int32) (u3 : Int32)  : Int32 :=
  if u1 < u2 then
    (0 : Int32)
  else
    if u3 < u1 then
      (0 : Int32)
    else
      (1 : Int32)
theorem d1_0 : decode method_2_code 0 = .ok (.iload_n 0, 1) := by decide +kernel
theorem d1_1 : decode method_2_code 1 = .ok (.iload_n 1, 1) := by decide +kernel
theorem d1_2 : decode method_2_code 2 = .ok (.if_icmp .lt 12, 3) := by decide +kernel
theorem d1_5 : decode method_2_code 5 = .ok (.iload_n 0, 1) := by decide +kernel
theorem d1_6 : decode method_2_code 6 = .ok (.iload_n 2, 1) := by decide +kernel
theorem d1_7 : decode method_2_code 7 = .ok (.if_icmp .gt 7, 3) := by decide +kernel
theorem d1_10 : decode method_2_code 10 = .ok (.iconst 1, 1) := by decide +kernel
theorem d1_11 : decode method_2_code 11 = .ok (.goto 4, 3) := by decide +kernel
theorem d1_14 : decode method_2_code 14 = .ok (.iconst 0, 1) := by decide +kernel
theorem d1_15 : decode method_2_code 15 = .ok (.ireturn, 1) := by decide +kernel
theorem pn_1 : plainName "com/example/kdata/kdata/XmlCharsIsNameStartCharPinLaw" = true := by first | (simp [plainName, overriddenIn]; done) | decide +kernel
theorem ef_1 (m : MethodId) (x0 : Int32) (x1 : Int32) (x2 : Int32) : entryFrame m #[(.int x0), (.int x1), (.int x2)] 3 = mkF m 0 #[.val (.int x0), .val (.int x1), .val (.int x2)] [] := by first | (simp [entryFrame, mkF, argsToLocals, Value.category]; done) | rfl
def Q1 (u1 : Int32) (u2 : Int32) (u3 : Int32) (h0 : Heap) (n0 : Nat) (v : Option Value) (h : Heap) (L : List Loc) : Prop := v = some (.int (own_in_0 u1 u2 u3)) ∧ Fr n0 L ∧ h = h0
set_option maxRecDepth 65536 in
set_option maxHeartbeats 40000000 in
theorem rm1 (l : Launch) (Z : State) (a0 : Array Value) (hw : ∀ d ∈ tables_1, d.before a0 Z = true) (ws : List Jvm.Cond) (u1 : Int32) (u2 : Int32) (u3 : Int32) (h0 : Heap) (n0 : Nat) (Z0 : n0 ≤ h0.size)   :
    MetFree l (⟨"com/example/kdata/kdata/XmlCharsIsNameStartCharPinLaw", "in", "(III)Z"⟩ : MethodName) (head1 (Jvm.Cond.code (⟨"com/example/kdata/kdata/XmlCharsIsNameStartCharPinLaw", "in", "(III)Z"⟩ : MethodName) method_2_code 3 (some .boolean) :: ws) ({ frames := 0, cells := 0, slots := 0, locals := 0 } : Room)) (fun a U => a = #[(.int u1), (.int u2), (.int u3)] ∧ Z.Warmed39 U.vm ∧ U.heap = h0) (fun _ _ _ _ _ => True) (fun _ U o U' => ∃ v L, o = .returned v ∧ Q1 u1 u2 u3 h0 n0 v U'.heap L ∧ FrameEnd U o U' L ({ frames := 0, cells := 0, slots := 0, locals := 0 } : Room).cells ({ frames := 0, cells := 0, slots := 0, locals := 0 } : Room).slots) := by
  refine MetFree.of_bodySF (plainFor_of_name pn_1) hisR ?_
  intro p e s m args below meth c s₁ Bd hml0 hP hK
  obtain ⟨rfl, hZ, hh⟩ := hP
  have hx := Bd.exec
  have hby := Bd.bytes
  have hml : c.maxLocals = 3 := hml0
  have hown : s.vm.findClass "com/example/kdata/kdata/XmlCharsIsNameStartCharPinLaw" = some m.cls := findClass_of_methodNamed Bd.named
  have hnm := (name_of_methodNamed Bd.named Bd.method).1
  have X0 : Stand p l e ({ frames := 0, cells := 0, slots := 0, locals := 0 } : Room) s m #[(.int u1), (.int u2), (.int u3)] below meth c s₁ [] 0 0 := Stand.of_body Bd
  have e0 : s₁.heap = h0 := by rw [← hh, Bd.state]; rfl
  have N0 := Fr.nil n0
  show own_Go p e below s (Q1 u1 u2 u3 h0 n0) ({ frames := 0, cells := 0, slots := 0, locals := 0 } : Room).cells ({ frames := 0, cells := 0, slots := 0, locals := 0 } : Room).slots (s₁.setTop (entryFrame m #[(.int u1), (.int u2), (.int u3)] 3))
  refine own_go (b := s₁.setTop (mkF m 0 #[.val (.int u1), .val (.int u2), .val (.int u3)] [])) (fun t k => castTop (ef_1 m u1 u2 u3) k) ?_
  refine own_go (b := s₁.setTop (mkF m 2 #[.val (.int u1), .val (.int u2), .val (.int u3)] [(.int u2), (.int u1)])) (fun t k => ?_) ?_
  · show Steps p.tables e below (s₁.setTop (mkF m 0 #[.val (.int u1), .val (.int u2), .val (.int u3)] [])) _
    refine XS.iloadN X0.here hx rfl (hb hby d1_0) rfl ?_
    show Steps p.tables e below (s₁.setTop (mkF m 1 #[.val (.int u1), .val (.int u2), .val (.int u3)] [(.int u1)])) _
    refine XS.iloadN X0.here hx rfl (hb hby d1_1) rfl ?_
    show Steps p.tables e below (s₁.setTop (mkF m 2 #[.val (.int u1), .val (.int u2), .val (.int u3)] [(.int u2), (.int u1)])) _
    exact k
  by_cases hc2 : u1 < u2
  · refine own_end X0 Bd.notSynchronized (v := some (.int (0 : Int32))) (fun h => by rw [Bd.returns] at h; cases h) (fun fs hr => ?_) e0 ?_ (by decide) (by decide)
    · show Steps p.tables e below (s₁.setTop (mkF m 2 #[.val (.int u1), .val (.int u2), .val (.int u3)] [(.int u2), (.int u1)])) _
      refine XS.icmpYes X0.here hx rfl (pc0 := 2) (pc' := 14) rfl (hb hby d1_2) rfl (tlt hc2).1 (by decide) (by decide) ?_
      show Steps p.tables e below (s₁.setTop (mkF m 14 #[.val (.int u1), .val (.int u2), .val (.int u3)] [])) _
      refine XS.iconst X0.here hx rfl (hb hby d1_14) ?_
      show Steps p.tables e below (s₁.setTop (mkF m 15 #[.val (.int u1), .val (.int u2), .val (.int u3)] [(.int (0 : Int32))])) _
      exact retN X0 hx (t := .boolean) Bd.returns (by simp) (hb hby d1_15) hr
    · exact ⟨by rw [own_in_0, if_pos hc2], N0, rfl⟩
  · refine own_go (b := s₁.setTop (mkF m 7 #[.val (.int u1), .val (.int u2), .val (.int u3)] [(.int u3), (.int u1)])) (fun t k => ?_) ?_
    · show Steps p.tables e below (s₁.setTop (mkF m 2 #[.val (.int u1), .val (.int u2), .val (.int u3)] [(.int u2), (.int u1)])) _
      refine XS.icmpNo X0.here hx rfl (hb hby d1_2) rfl (flt hc2).1 ?_
      show Steps p.tables e below (s₁.setTop (mkF m 5 #[.val (.int u1), .val (.int u2), .val (.int u3)] [])) _
      refine XS.iloadN X0.here hx rfl (hb hby d1_5) rfl ?_
      show Steps p.tables e below (s₁.setTop (mkF m 6 #[.val (.int u1), .val (.int u2), .val (.int u3)] [(.int u1)])) _
      refine XS.iloadN X0.here hx rfl (hb hby d1_6) rfl ?_
      show Steps p.tables e below (s₁.setTop (mkF m 7 #[.val (.int u1), .val (.int u2), .val (.int u3)] [(.int u3), (.int u1)])) _
      exact k
    by_cases hc7 : u3 < u1
    · refine own_end X0 Bd.notSynchronized (v := some (.int (0 : Int32))) (fun h => by rw [Bd.returns] at h; cases h) (fun fs hr => ?_) e0 ?_ (by decide) (by decide)
      · show Steps p.tables e below (s₁.setTop (mkF m 7 #[.val (.int u1), .val (.int u2), .val (.int u3)] [(.int u3), (.int u1)])) _
        refine XS.icmpYes X0.here hx rfl (pc0 := 7) (pc' := 14) rfl (hb hby d1_7) rfl (tlt hc7).2.2.1 (by decide) (by decide) ?_
        show Steps p.tables e below (s₁.setTop (mkF m 14 #[.val (.int u1), .val (.int u2), .val (.int u3)] [])) _
        refine XS.iconst X0.here hx rfl (hb hby d1_14) ?_
        show Steps p.tables e below (s₁.setTop (mkF m 15 #[.val (.int u1), .val (.int u2), .val (.int u3)] [(.int (0 : Int32))])) _
        exact retN X0 hx (t := .boolean) Bd.returns (by simp) (hb hby d1_15) hr
      · exact ⟨by rw [own_in_0, if_neg hc2, if_pos hc7], N0, rfl⟩
    · refine own_end X0 Bd.notSynchronized (v := some (.int (1 : Int32))) (fun h => by rw [Bd.returns] at h; cases h) (fun fs hr => ?_) e0 ?_ (by decide) (by decide)
      · show Steps p.tables e below (s₁.setTop (mkF m 7 #[.val (.int u1), .val (.int u2), .val (.int u3)] [(.int u3), (.int u1)])) _
        refine XS.icmpNo X0.here hx rfl (hb hby d1_7) rfl (flt hc7).2.2.1 ?_
        show Steps p.tables e below (s₁.setTop (mkF m 10 #[.val (.int u1), .val (.int u2), .val (.int u3)] [])) _
        refine XS.iconst X0.here hx rfl (hb hby d1_10) ?_
        show Steps p.tables e below (s₁.setTop (mkF m 11 #[.val (.int u1), .val (.int u2), .val (.int u3)] [(.int (1 : Int32))])) _
        refine XS.goto X0.here hx rfl (pc0 := 11) (pc' := 15) rfl (hb hby d1_11) (by decide) (by decide) ?_
        show Steps p.tables e below (s₁.setTop (mkF m 15 #[.val (.int u1), .val (.int u2), .val (.int u3)] [(.int (1 : Int32))])) _
        exact retN X0 hx (t := .boolean) Bd.returns (by simp) (hb hby d1_15) hr
      · exact ⟨by rw [own_in_0, if_neg hc2, if_neg hc7], N0, rfl⟩
theorem pd__28III_29Z : parseMethodDescriptor "(III)Z" = some ⟨[.int, .int, .int], some .boolean⟩ := by decide +kernel
def own_ref_179 (u1 : Int32) (k179_0 : Int32) : Int32 :=
  if k179_0 = (0 : Int32) then
    (1 : Int32)
  else
    (0 : Int32)
def own_ref_174 (u1 : Int32)  : Int32 :=
  own_ref_179 u1 (1 : Int32)
def own_ref_0 (u1 : Int32)  : Int32 :=
  if u1 < (65 : Int32) then
    if u1 = (58 : Int32) then
      (1 : Int32)
    else
      (0 : Int32)
  else
    if (983039 : Int32) < u1 then
      (0 : Int32)
    else
      if (own_in_0 u1 (91 : Int32) (94 : Int32)) = (0 : Int32) then
        if u1 = (96 : Int32) then
          own_ref_174 u1 
        else
          if (own_in_0 u1 (123 : Int32) (191 : Int32)) = (0 : Int32) then
            if u1 = (215 : Int32) then
              own_ref_174 u1 
            else
              if u1 = (247 : Int32) then
                own_ref_174 u1 
              else
                if (own_in_0 u1 (768 : Int32) (879 : Int32)) = (0 : Int32) then
                  if u1 = (894 : Int32) then
                    own_ref_174 u1 
                  else
                    if (own_in_0 u1 (8192 : Int32) (8203 : Int32)) = (0 : Int32) then
                      if (own_in_0 u1 (8206 : Int32) (8303 : Int32)) = (0 : Int32) then
                        if (own_in_0 u1 (8592 : Int32) (11263 : Int32)) = (0 : Int32) then
                          if (own_in_0 u1 (12272 : Int32) (12288 : Int32)) = (0 : Int32) then
                            if (own_in_0 u1 (55296 : Int32) (63743 : Int32)) = (0 : Int32) then
                              if (own_in_0 u1 (64976 : Int32) (65007 : Int32)) = (0 : Int32) then
                                if (own_in_0 u1 (65534 : Int32) (65535 : Int32)) = (0 : Int32) then
                                  own_ref_179 u1 (0 : Int32)
                                else
                                  own_ref_174 u1 
                              else
                                own_ref_174 u1 
                            else
                              own_ref_174 u1 
                          else
                            own_ref_174 u1 
                        else
                          own_ref_174 u1 
                      else
                        own_ref_174 u1 
                    else
                      own_ref_174 u1 
                else
                  own_ref_174 u1 
          else
            own_ref_174 u1 
      else
        own_ref_174 u1 
theorem d2_0 : decode method_3_code 0 = .ok (.iload_n 0, 1) := by decide +kernel
theorem d2_1 : decode method_3_code 1 = .ok (.bipush 65, 2) := by decide +kernel
theorem d2_3 : decode method_3_code 3 = .ok (.if_icmp .ge 15, 3) := by decide +kernel
theorem d2_6 : decode method_3_code 6 = .ok (.iload_n 0, 1) := by decide +kernel
theorem d2_7 : decode method_3_code 7 = .ok (.bipush 58, 2) := by decide +kernel
theorem d2_9 : decode method_3_code 9 = .ok (.if_icmp .ne 7, 3) := by decide +kernel
theorem d2_12 : decode method_3_code 12 = .ok (.iconst 1, 1) := by decide +kernel
theorem d2_13 : decode method_3_code 13 = .ok (.goto 4, 3) := by decide +kernel
theorem d2_16 : decode method_3_code 16 = .ok (.iconst 0, 1) := by decide +kernel
theorem d2_17 : decode method_3_code 17 = .ok (.ireturn, 1) := by decide +kernel
theorem d2_18 : decode method_3_code 18 = .ok (.iload_n 0, 1) := by decide +kernel
theorem d2_19 : decode method_3_code 19 = .ok (.ldc 7, 2) := by decide +kernel
theorem d2_21 : decode method_3_code 21 = .ok (.if_icmp .le 5, 3) := by decide +kernel
theorem d2_24 : decode method_3_code 24 = .ok (.iconst 0, 1) := by decide +kernel
theorem d2_25 : decode method_3_code 25 = .ok (.ireturn, 1) := by decide +kernel
theorem d2_26 : decode method_3_code 26 = .ok (.iload_n 0, 1) := by decide +kernel
theorem d2_27 : decode method_3_code 27 = .ok (.bipush 91, 2) := by decide +kernel
theorem d2_29 : decode method_3_code 29 = .ok (.bipush 94, 2) := by decide +kernel
theorem d2_31 : decode method_3_code 31 = .ok (.invokestatic 8, 3) := by decide +kernel
theorem d2_34 : decode method_3_code 34 = .ok (.ifCond .ne 140, 3) := by decide +kernel
theorem d2_37 : decode method_3_code 37 = .ok (.iload_n 0, 1) := by decide +kernel
theorem d2_38 : decode method_3_code 38 = .ok (.bipush 96, 2) := by decide +kernel
theorem d2_40 : decode method_3_code 40 = .ok (.if_icmp .eq 134, 3) := by decide +kernel
theorem d2_43 : decode method_3_code 43 = .ok (.iload_n 0, 1) := by decide +kernel
theorem d2_44 : decode method_3_code 44 = .ok (.bipush 123, 2) := by decide +kernel
theorem d2_46 : decode method_3_code 46 = .ok (.sipush 191, 3) := by decide +kernel
theorem d2_49 : decode method_3_code 49 = .ok (.invokestatic 8, 3) := by decide +kernel
theorem d2_52 : decode method_3_code 52 = .ok (.ifCond .ne 122, 3) := by decide +kernel
theorem d2_55 : decode method_3_code 55 = .ok (.iload_n 0, 1) := by decide +kernel
theorem d2_56 : decode method_3_code 56 = .ok (.sipush 215, 3) := by decide +kernel
theorem d2_59 : decode method_3_code 59 = .ok (.if_icmp .eq 115, 3) := by decide +kernel
theorem d2_62 : decode method_3_code 62 = .ok (.iload_n 0, 1) := by decide +kernel
theorem d2_63 : decode method_3_code 63 = .ok (.sipush 247, 3) := by decide +kernel
theorem d2_66 : decode method_3_code 66 = .ok (.if_icmp .eq 108, 3) := by decide +kernel
theorem d2_69 : decode method_3_code 69 = .ok (.iload_n 0, 1) := by decide +kernel
theorem d2_70 : decode method_3_code 70 = .ok (.sipush 768, 3) := by decide +kernel
theorem d2_73 : decode method_3_code 73 = .ok (.sipush 879, 3) := by decide +kernel
theorem d2_76 : decode method_3_code 76 = .ok (.invokestatic 8, 3) := by decide +kernel
theorem d2_79 : decode method_3_code 79 = .ok (.ifCond .ne 95, 3) := by decide +kernel
theorem d2_82 : decode method_3_code 82 = .ok (.iload_n 0, 1) := by decide +kernel
theorem d2_83 : decode method_3_code 83 = .ok (.sipush 894, 3) := by decide +kernel
theorem d2_86 : decode method_3_code 86 = .ok (.if_icmp .eq 88, 3) := by decide +kernel
theorem d2_89 : decode method_3_code 89 = .ok (.iload_n 0, 1) := by decide +kernel
theorem d2_90 : decode method_3_code 90 = .ok (.sipush 8192, 3) := by decide +kernel
theorem d2_93 : decode method_3_code 93 = .ok (.sipush 8203, 3) := by decide +kernel
theorem d2_96 : decode method_3_code 96 = .ok (.invokestatic 8, 3) := by decide +kernel
theorem d2_99 : decode method_3_code 99 = .ok (.ifCond .ne 75, 3) := by decide +kernel
theorem d2_102 : decode method_3_code 102 = .ok (.iload_n 0, 1) := by decide +kernel
theorem d2_103 : decode method_3_code 103 = .ok (.sipush 8206, 3) := by decide +kernel
theorem d2_106 : decode method_3_code 106 = .ok (.sipush 8303, 3) := by decide +kernel
theorem d2_109 : decode method_3_code 109 = .ok (.invokestatic 8, 3) := by decide +kernel
theorem d2_112 : decode method_3_code 112 = .ok (.ifCond .ne 62, 3) := by decide +kernel
theorem d2_115 : decode method_3_code 115 = .ok (.iload_n 0, 1) := by decide +kernel
theorem d2_116 : decode method_3_code 116 = .ok (.sipush 8592, 3) := by decide +kernel
theorem d2_119 : decode method_3_code 119 = .ok (.sipush 11263, 3) := by decide +kernel
theorem d2_122 : decode method_3_code 122 = .ok (.invokestatic 8, 3) := by decide +kernel
theorem d2_125 : decode method_3_code 125 = .ok (.ifCond .ne 49, 3) := by decide +kernel
theorem d2_128 : decode method_3_code 128 = .ok (.iload_n 0, 1) := by decide +kernel
theorem d2_129 : decode method_3_code 129 = .ok (.sipush 12272, 3) := by decide +kernel
theorem d2_132 : decode method_3_code 132 = .ok (.sipush 12288, 3) := by decide +kernel
theorem d2_135 : decode method_3_code 135 = .ok (.invokestatic 8, 3) := by decide +kernel
theorem d2_138 : decode method_3_code 138 = .ok (.ifCond .ne 36, 3) := by decide +kernel
theorem d2_141 : decode method_3_code 141 = .ok (.iload_n 0, 1) := by decide +kernel
theorem d2_142 : decode method_3_code 142 = .ok (.ldc 14, 2) := by decide +kernel
theorem d2_144 : decode method_3_code 144 = .ok (.ldc 15, 2) := by decide +kernel
theorem d2_146 : decode method_3_code 146 = .ok (.invokestatic 8, 3) := by decide +kernel
theorem d2_149 : decode method_3_code 149 = .ok (.ifCond .ne 25, 3) := by decide +kernel
theorem d2_152 : decode method_3_code 152 = .ok (.iload_n 0, 1) := by decide +kernel
theorem d2_153 : decode method_3_code 153 = .ok (.ldc 16, 2) := by decide +kernel
theorem d2_155 : decode method_3_code 155 = .ok (.ldc 17, 2) := by decide +kernel
theorem d2_157 : decode method_3_code 157 = .ok (.invokestatic 8, 3) := by decide +kernel
theorem d2_160 : decode method_3_code 160 = .ok (.ifCond .ne 14, 3) := by decide +kernel
theorem d2_163 : decode method_3_code 163 = .ok (.iload_n 0, 1) := by decide +kernel
theorem d2_164 : decode method_3_code 164 = .ok (.ldc 18, 2) := by decide +kernel
theorem d2_166 : decode method_3_code 166 = .ok (.ldc 19, 2) := by decide +kernel
theorem d2_168 : decode method_3_code 168 = .ok (.invokestatic 8, 3) := by decide +kernel
theorem d2_171 : decode method_3_code 171 = .ok (.ifCond .eq 7, 3) := by decide +kernel
theorem d2_174 : decode method_3_code 174 = .ok (.iconst 1, 1) := by decide +kernel
theorem d2_175 : decode method_3_code 175 = .ok (.goto 4, 3) := by decide +kernel
theorem d2_178 : decode method_3_code 178 = .ok (.iconst 0, 1) := by decide +kernel
theorem d2_179 : decode method_3_code 179 = .ok (.istore_n 1, 1) := by decide +kernel
theorem d2_180 : decode method_3_code 180 = .ok (.iload_n 1, 1) := by decide +kernel
theorem d2_181 : decode method_3_code 181 = .ok (.ifCond .ne 7, 3) := by decide +kernel
theorem d2_184 : decode method_3_code 184 = .ok (.iconst 1, 1) := by decide +kernel
theorem d2_185 : decode method_3_code 185 = .ok (.goto 4, 3) := by decide +kernel
theorem d2_188 : decode method_3_code 188 = .ok (.iconst 0, 1) := by decide +kernel
theorem d2_189 : decode method_3_code 189 = .ok (.ireturn, 1) := by decide +kernel
theorem pn_2 : plainName "com/example/kdata/kdata/XmlCharsIsNameStartCharPinLaw" = true := by first | (simp [plainName, overriddenIn]; done) | decide +kernel
theorem ef_2 (m : MethodId) (x0 : Int32) : entryFrame m #[(.int x0)] 2 = mkF m 0 #[.val (.int x0), .unset] [] := by first | (simp [entryFrame, mkF, argsToLocals, Value.category]; done) | rfl
def Q2 (u1 : Int32) (h0 : Heap) (n0 : Nat) (v : Option Value) (h : Heap) (L : List Loc) : Prop := v = some (.int (own_ref_0 u1)) ∧ Fr n0 L ∧ h = h0
set_option maxRecDepth 65536 in
set_option maxHeartbeats 40000000 in
theorem rm2 (l : Launch) (Z : State) (a0 : Array Value) (hw : ∀ d ∈ tables_1, d.before a0 Z = true) (ws : List Jvm.Cond) (u1 : Int32) (h0 : Heap) (n0 : Nat) (Z0 : n0 ≤ h0.size)   :
    MetFree l (⟨"com/example/kdata/kdata/XmlCharsIsNameStartCharPinLaw", "ref", "(I)Z"⟩ : MethodName) (head1 (Jvm.Cond.code (⟨"com/example/kdata/kdata/XmlCharsIsNameStartCharPinLaw", "ref", "(I)Z"⟩ : MethodName) method_3_code 2 (some .boolean) :: ws) ({ frames := 1, cells := 0, slots := 0, locals := 14 } : Room)) (fun a U => a = #[(.int u1)] ∧ Z.Warmed39 U.vm ∧ U.heap = h0) (fun _ _ _ _ _ => True) (fun _ U o U' => ∃ v L, o = .returned v ∧ Q2 u1 h0 n0 v U'.heap L ∧ FrameEnd U o U' L ({ frames := 1, cells := 0, slots := 0, locals := 14 } : Room).cells ({ frames := 1, cells := 0, slots := 0, locals := 14 } : Room).slots) := by
  refine MetFree.of_bodySF (plainFor_of_name pn_2) hisR ?_
  intro p e s m args below meth c s₁ Bd hml0 hP hK
  obtain ⟨rfl, hZ, hh⟩ := hP
  have hx := Bd.exec
  have hby := Bd.bytes
  have hml : c.maxLocals = 2 := hml0
  have hown : s.vm.findClass "com/example/kdata/kdata/XmlCharsIsNameStartCharPinLaw" = some m.cls := findClass_of_methodNamed Bd.named
  have hnm := (name_of_methodNamed Bd.named Bd.method).1
  have X0 : Stand p l e ({ frames := 1, cells := 0, slots := 0, locals := 14 } : Room) s m #[(.int u1)] below meth c s₁ [] 0 0 := Stand.of_body Bd
  have e0 : s₁.heap = h0 := by rw [← hh, Bd.state]; rfl
  have N0 := Fr.nil n0
  show own_Go p e below s (Q2 u1 h0 n0) ({ frames := 1, cells := 0, slots := 0, locals := 14 } : Room).cells ({ frames := 1, cells := 0, slots := 0, locals := 14 } : Room).slots (s₁.setTop (entryFrame m #[(.int u1)] 2))
  refine own_go (b := s₁.setTop (mkF m 0 #[.val (.int u1), .unset] [])) (fun t k => castTop (ef_2 m u1) k) ?_
  have J179 : ∀ (T : State) (lc : List Loc), Stand p l e ({ frames := 1, cells := 0, slots := 0, locals := 14 } : Room) s m #[(.int u1)] below meth c T lc 0 0 → Fr n0 lc → T.heap = h0 → ∀ (k179_0 : Int32), own_ref_0 u1 = own_ref_179 u1 k179_0 → own_Go p e below s (Q2 u1 h0 n0) ({ frames := 1, cells := 0, slots := 0, locals := 14 } : Room).cells ({ frames := 1, cells := 0, slots := 0, locals := 14 } : Room).slots (T.setTop (mkF m 179 #[.val (.int u1), .unset] [(.int k179_0)])) := by
    intro T lc X N eT k179_0   hv
    refine own_go (b := T.setTop (mkF m 181 #[.val (.int u1), .val (.int k179_0)] [(.int k179_0)])) (fun t k => ?_) ?_
    · show Steps p.tables e below (T.setTop (mkF m 179 #[.val (.int u1), .unset] [(.int k179_0)])) _
      refine XS.istoreN X.here hx rfl (hb hby d2_179) rfl (l' := #[.val (.int u1), .val (.int k179_0)]) rfl ?_
      show Steps p.tables e below (T.setTop (mkF m 180 #[.val (.int u1), .val (.int k179_0)] [])) _
      refine XS.iloadN X.here hx rfl (hb hby d2_180) rfl ?_
      show Steps p.tables e below (T.setTop (mkF m 181 #[.val (.int u1), .val (.int k179_0)] [(.int k179_0)])) _
      exact k
    by_cases hc181 : k179_0 = (0 : Int32)
    · refine own_end X Bd.notSynchronized (v := some (.int (1 : Int32))) (fun h => by rw [Bd.returns] at h; cases h) (fun fs hr => ?_) eT ?_ (by decide) (by decide)
      · show Steps p.tables e below (T.setTop (mkF m 181 #[.val (.int u1), .val (.int k179_0)] [(.int k179_0)])) _
        refine XS.ifNo X.here hx rfl (hb hby d2_181) rfl ((if0 _ _).trans (teq hc181).2) ?_
        show Steps p.tables e below (T.setTop (mkF m 184 #[.val (.int u1), .val (.int k179_0)] [])) _
        refine XS.iconst X.here hx rfl (hb hby d2_184) ?_
        show Steps p.tables e below (T.setTop (mkF m 185 #[.val (.int u1), .val (.int k179_0)] [(.int (1 : Int32))])) _
        refine XS.goto X.here hx rfl (pc0 := 185) (pc' := 189) rfl (hb hby d2_185) (by decide) (by decide) ?_
        show Steps p.tables e below (T.setTop (mkF m 189 #[.val (.int u1), .val (.int k179_0)] [(.int (1 : Int32))])) _
        exact retN X hx (t := .boolean) Bd.returns (by simp) (hb hby d2_189) hr
      · exact ⟨by rw [hv, own_ref_179, if_pos hc181], N, rfl⟩
    · refine own_end X Bd.notSynchronized (v := some (.int (0 : Int32))) (fun h => by rw [Bd.returns] at h; cases h) (fun fs hr => ?_) eT ?_ (by decide) (by decide)
      · show Steps p.tables e below (T.setTop (mkF m 181 #[.val (.int u1), .val (.int k179_0)] [(.int k179_0)])) _
        refine XS.ifYes X.here hx rfl (pc0 := 181) (pc' := 188) rfl (hb hby d2_181) rfl ((if0 _ _).trans (feq hc181).2) (by decide) (by decide) ?_
        show Steps p.tables e below (T.setTop (mkF m 188 #[.val (.int u1), .val (.int k179_0)] [])) _
        refine XS.iconst X.here hx rfl (hb hby d2_188) ?_
        show Steps p.tables e below (T.setTop (mkF m 189 #[.val (.int u1), .val (.int k179_0)] [(.int (0 : Int32))])) _
        exact retN X hx (t := .boolean) Bd.returns (by simp) (hb hby d2_189) hr
      · exact ⟨by rw [hv, own_ref_179, if_neg hc181], N, rfl⟩
  have J174 : ∀ (T : State) (lc : List Loc), Stand p l e ({ frames := 1, cells := 0, slots := 0, locals := 14 } : Room) s m #[(.int u1)] below meth c T lc 0 0 → Fr n0 lc → T.heap = h0 → own_ref_0 u1 = own_ref_174 u1  → own_Go p e below s (Q2 u1 h0 n0) ({ frames := 1, cells := 0, slots := 0, locals := 14 } : Room).cells ({ frames := 1, cells := 0, slots := 0, locals := 14 } : Room).slots (T.setTop (mkF m 174 #[.val (.int u1), .unset] [])) := by
    intro T lc X N eT    hv
    refine own_go (b := T.setTop (mkF m 179 #[.val (.int u1), .unset] [(.int (1 : Int32))])) (fun t k => ?_) ?_
    · show Steps p.tables e below (T.setTop (mkF m 174 #[.val (.int u1), .unset] [])) _
      refine XS.iconst X.here hx rfl (hb hby d2_174) ?_
      show Steps p.tables e below (T.setTop (mkF m 175 #[.val (.int u1), .unset] [(.int (1 : Int32))])) _
      refine XS.goto X.here hx rfl (pc0 := 175) (pc' := 179) rfl (hb hby d2_175) (by decide) (by decide) ?_
      show Steps p.tables e below (T.setTop (mkF m 179 #[.val (.int u1), .unset] [(.int (1 : Int32))])) _
      exact k
    exact J179 T _ X N eT (1 : Int32)   (by rw [hv, own_ref_174])
  refine own_go (b := s₁.setTop (mkF m 3 #[.val (.int u1), .unset] [(.int (65 : Int32)), (.int u1)])) (fun t k => ?_) ?_
  · show Steps p.tables e below (s₁.setTop (mkF m 0 #[.val (.int u1), .unset] [])) _
    refine XS.iloadN X0.here hx rfl (hb hby d2_0) rfl ?_
    show Steps p.tables e below (s₁.setTop (mkF m 1 #[.val (.int u1), .unset] [(.int u1)])) _
    refine XS.bipush X0.here hx rfl (hb hby d2_1) ?_
    show Steps p.tables e below (s₁.setTop (mkF m 3 #[.val (.int u1), .unset] [(.int (65 : Int32)), (.int u1)])) _
    exact k
  by_cases hc3 : u1 < (65 : Int32)
  · refine own_go (b := s₁.setTop (mkF m 9 #[.val (.int u1), .unset] [(.int (58 : Int32)), (.int u1)])) (fun t k => ?_) ?_
    · show Steps p.tables e below (s₁.setTop (mkF m 3 #[.val (.int u1), .unset] [(.int (65 : Int32)), (.int u1)])) _
      refine XS.icmpNo X0.here hx rfl (hb hby d2_3) rfl (tlt hc3).2.1 ?_
      show Steps p.tables e below (s₁.setTop (mkF m 6 #[.val (.int u1), .unset] [])) _
      refine XS.iloadN X0.here hx rfl (hb hby d2_6) rfl ?_
      show Steps p.tables e below (s₁.setTop (mkF m 7 #[.val (.int u1), .unset] [(.int u1)])) _
      refine XS.bipush X0.here hx rfl (hb hby d2_7) ?_
      show Steps p.tables e below (s₁.setTop (mkF m 9 #[.val (.int u1), .unset] [(.int (58 : Int32)), (.int u1)])) _
      exact k
    by_cases hc9 : u1 = (58 : Int32)
    · refine own_end X0 Bd.notSynchronized (v := some (.int (1 : Int32))) (fun h => by rw [Bd.returns] at h; cases h) (fun fs hr => ?_) e0 ?_ (by decide) (by decide)
      · show Steps p.tables e below (s₁.setTop (mkF m 9 #[.val (.int u1), .unset] [(.int (58 : Int32)), (.int u1)])) _
        refine XS.icmpNo X0.here hx rfl (hb hby d2_9) rfl (teq hc9).2 ?_
        show Steps p.tables e below (s₁.setTop (mkF m 12 #[.val (.int u1), .unset] [])) _
        refine XS.iconst X0.here hx rfl (hb hby d2_12) ?_
        show Steps p.tables e below (s₁.setTop (mkF m 13 #[.val (.int u1), .unset] [(.int (1 : Int32))])) _
        refine XS.goto X0.here hx rfl (pc0 := 13) (pc' := 17) rfl (hb hby d2_13) (by decide) (by decide) ?_
        show Steps p.tables e below (s₁.setTop (mkF m 17 #[.val (.int u1), .unset] [(.int (1 : Int32))])) _
        exact retN X0 hx (t := .boolean) Bd.returns (by simp) (hb hby d2_17) hr
      · exact ⟨by rw [own_ref_0, if_pos hc3, if_pos hc9], N0, rfl⟩
    · refine own_end X0 Bd.notSynchronized (v := some (.int (0 : Int32))) (fun h => by rw [Bd.returns] at h; cases h) (fun fs hr => ?_) e0 ?_ (by decide) (by decide)
      · show Steps p.tables e below (s₁.setTop (mkF m 9 #[.val (.int u1), .unset] [(.int (58 : Int32)), (.int u1)])) _
        refine XS.icmpYes X0.here hx rfl (pc0 := 9) (pc' := 16) rfl (hb hby d2_9) rfl (feq hc9).2 (by decide) (by decide) ?_
        show Steps p.tables e below (s₁.setTop (mkF m 16 #[.val (.int u1), .unset] [])) _
        refine XS.iconst X0.here hx rfl (hb hby d2_16) ?_
        show Steps p.tables e below (s₁.setTop (mkF m 17 #[.val (.int u1), .unset] [(.int (0 : Int32))])) _
        exact retN X0 hx (t := .boolean) Bd.returns (by simp) (hb hby d2_17) hr
      · exact ⟨by rw [own_ref_0, if_pos hc3, if_neg hc9], N0, rfl⟩
  · refine own_go (b := s₁.setTop (mkF m 21 #[.val (.int u1), .unset] [(.int (983039 : Int32)), (.int u1)])) (fun t k => ?_) ?_
    · show Steps p.tables e below (s₁.setTop (mkF m 3 #[.val (.int u1), .unset] [(.int (65 : Int32)), (.int u1)])) _
      refine XS.icmpYes X0.here hx rfl (pc0 := 3) (pc' := 18) rfl (hb hby d2_3) rfl (flt hc3).2.1 (by decide) (by decide) ?_
      show Steps p.tables e below (s₁.setTop (mkF m 18 #[.val (.int u1), .unset] [])) _
      refine XS.iloadN X0.here hx rfl (hb hby d2_18) rfl ?_
      show Steps p.tables e below (s₁.setTop (mkF m 19 #[.val (.int u1), .unset] [(.int u1)])) _
      refine X0.ldcI hx hown (mvT hZ (hw _ (List.mem_of_getElem? (i := 7) rfl))) rfl (hb hby d2_19) ?_
      show Steps p.tables e below (s₁.setTop (mkF m 21 #[.val (.int u1), .unset] [(.int (983039 : Int32)), (.int u1)])) _
      exact k
    by_cases hc21 : (983039 : Int32) < u1
    · refine own_end X0 Bd.notSynchronized (v := some (.int (0 : Int32))) (fun h => by rw [Bd.returns] at h; cases h) (fun fs hr => ?_) e0 ?_ (by decide) (by decide)
      · show Steps p.tables e below (s₁.setTop (mkF m 21 #[.val (.int u1), .unset] [(.int (983039 : Int32)), (.int u1)])) _
        refine XS.icmpNo X0.here hx rfl (hb hby d2_21) rfl (tlt hc21).2.2.2 ?_
        show Steps p.tables e below (s₁.setTop (mkF m 24 #[.val (.int u1), .unset] [])) _
        refine XS.iconst X0.here hx rfl (hb hby d2_24) ?_
        show Steps p.tables e below (s₁.setTop (mkF m 25 #[.val (.int u1), .unset] [(.int (0 : Int32))])) _
        exact retN X0 hx (t := .boolean) Bd.returns (by simp) (hb hby d2_25) hr
      · exact ⟨by rw [own_ref_0, if_neg hc3, if_pos hc21], N0, rfl⟩
    · obtain ⟨_, _, ⟨T1, uL1, uk1, un1⟩, -, X1, ⟨Lc1, hQ1, ul1, uy1, uz1⟩, st1⟩ := Jvm.LawKit.callS X0 hx (y := (⟨"com/example/kdata/kdata/XmlCharsIsNameStartCharPinLaw", "in", "(III)Z"⟩ : MethodName)) hown (mvT hZ (hw _ (List.mem_of_getElem? (i := 19) rfl))) (mvT hZ (hw _ (List.mem_of_getElem? (i := 20) rfl))) (mvT hZ (hw _ (List.mem_of_getElem? (i := 17) rfl))) (mvT hZ (hw _ (List.mem_of_getElem? (i := 21) rfl))) (by decide) (backOf (W := 0) (rm1 l Z a0 hw [] u1 (91 : Int32) (94 : Int32) h0 n0 Z0 ) hZ (hw _ (List.mem_of_getElem? (i := 21) rfl)) (hw _ (List.mem_of_getElem? (i := 17) rfl)) (by decide) (by decide)) (g := (mkF m 31 #[.val (.int u1), .unset] [(.int (94 : Int32)), (.int (91 : Int32)), (.int u1)])) rfl (by rw [hml]; rfl) (argsL := [(.int u1), (.int (91 : Int32)), (.int (94 : Int32))]) (rest := []) (lenOf pd__28III_29Z rfl) rfl (by show 2 * 0 + _ ≤ _; exact Nat.le_of_eq rfl) (hb hby d2_31) (fun _ _ => ⟨rfl, e0, (by decide : 0 + 0 ≤ _), (by decide : 0 + 0 ≤ _)⟩)
      dsimp only [Pt.U, Pt.locs, Pt.cells, Pt.slots] at X1 ul1 uy1 uz1 st1 hQ1
      subst ul1 uy1 uz1
      obtain ⟨rfl, Nq1, e1⟩ := hQ1
      have N1 := Fr.app N0 Nq1
      refine own_go (b := T1.setTop (mkF m 34 #[.val (.int u1), .unset] [(.int (own_in_0 u1 (91 : Int32) (94 : Int32)))])) (fun t k => ?_) ?_
      · show Steps p.tables e below (s₁.setTop (mkF m 21 #[.val (.int u1), .unset] [(.int (983039 : Int32)), (.int u1)])) _
        refine XS.icmpYes X0.here hx rfl (pc0 := 21) (pc' := 26) rfl (hb hby d2_21) rfl (flt hc21).2.2.2 (by decide) (by decide) ?_
        show Steps p.tables e below (s₁.setTop (mkF m 26 #[.val (.int u1), .unset] [])) _
        refine XS.iloadN X0.here hx rfl (hb hby d2_26) rfl ?_
        show Steps p.tables e below (s₁.setTop (mkF m 27 #[.val (.int u1), .unset] [(.int u1)])) _
        refine XS.bipush X0.here hx rfl (hb hby d2_27) ?_
        show Steps p.tables e below (s₁.setTop (mkF m 29 #[.val (.int u1), .unset] [(.int (91 : Int32)), (.int u1)])) _
        refine XS.bipush X0.here hx rfl (hb hby d2_29) ?_
        show Steps p.tables e below (s₁.setTop (mkF m 31 #[.val (.int u1), .unset] [(.int (94 : Int32)), (.int (91 : Int32)), (.int u1)])) _
        refine st1 _ ?_
        show Steps p.tables e below (T1.setTop (mkF m 34 #[.val (.int u1), .unset] [(.int (own_in_0 u1 (91 : Int32) (94 : Int32)))])) _
        exact k
      by_cases hc34 : (own_in_0 u1 (91 : Int32) (94 : Int32)) = (0 : Int32)
      · refine own_go (b := T1.setTop (mkF m 40 #[.val (.int u1), .unset] [(.int (96 : Int32)), (.int u1)])) (fun t k => ?_) ?_
        · show Steps p.tables e below (T1.setTop (mkF m 34 #[.val (.int u1), .unset] [(.int (own_in_0 u1 (91 : Int32) (94 : Int32)))])) _
          refine XS.ifNo X1.here hx rfl (hb hby d2_34) rfl ((if0 _ _).trans (teq hc34).2) ?_
          show Steps p.tables e below (T1.setTop (mkF m 37 #[.val (.int u1), .unset] [])) _
          refine XS.iloadN X1.here hx rfl (hb hby d2_37) rfl ?_
          show Steps p.tables e below (T1.setTop (mkF m 38 #[.val (.int u1), .unset] [(.int u1)])) _
          refine XS.bipush X1.here hx rfl (hb hby d2_38) ?_
          show Steps p.tables e below (T1.setTop (mkF m 40 #[.val (.int u1), .unset] [(.int (96 : Int32)), (.int u1)])) _
          exact k
        by_cases hc40 : u1 = (96 : Int32)
        · refine own_go (b := T1.setTop (mkF m 174 #[.val (.int u1), .unset] [])) (fun t k => ?_) ?_
          · show Steps p.tables e below (T1.setTop (mkF m 40 #[.val (.int u1), .unset] [(.int (96 : Int32)), (.int u1)])) _
            refine XS.icmpYes X1.here hx rfl (pc0 := 40) (pc' := 174) rfl (hb hby d2_40) rfl (teq hc40).1 (by decide) (by decide) ?_
            show Steps p.tables e below (T1.setTop (mkF m 174 #[.val (.int u1), .unset] [])) _
            exact k
          exact J174 T1 _ X1 N1 e1    (by rw [own_ref_0, if_neg hc3, if_neg hc21, if_pos hc34, if_pos hc40])
        · obtain ⟨_, _, ⟨T2, uL2, uk2, un2⟩, -, X2, ⟨Lc2, hQ2, ul2, uy2, uz2⟩, st2⟩ := Jvm.LawKit.callS X1 hx (y := (⟨"com/example/kdata/kdata/XmlCharsIsNameStartCharPinLaw", "in", "(III)Z"⟩ : MethodName)) hown (mvT hZ (hw _ (List.mem_of_getElem? (i := 19) rfl))) (mvT hZ (hw _ (List.mem_of_getElem? (i := 20) rfl))) (mvT hZ (hw _ (List.mem_of_getElem? (i := 17) rfl))) (mvT hZ (hw _ (List.mem_of_getElem? (i := 21) rfl))) (by decide) (backOf (W := 0) (rm1 l Z a0 hw [] u1 (123 : Int32) (191 : Int32) h0 n0 Z0 ) hZ (hw _ (List.mem_of_getElem? (i := 21) rfl)) (hw _ (List.mem_of_getElem? (i := 17) rfl)) (by decide) (by decide)) (g := (mkF m 49 #[.val (.int u1), .unset] [(.int (191 : Int32)), (.int (123 : Int32)), (.int u1)])) rfl (by rw [hml]; rfl) (argsL := [(.int u1), (.int (123 : Int32)), (.int (191 : Int32))]) (rest := []) (lenOf pd__28III_29Z rfl) rfl (by show 2 * 0 + _ ≤ _; exact Nat.le_of_eq rfl) (hb hby d2_49) (fun _ _ => ⟨rfl, e1, (by decide : 0 + 0 ≤ _), (by decide : 0 + 0 ≤ _)⟩)
          dsimp only [Pt.U, Pt.locs, Pt.cells, Pt.slots] at X2 ul2 uy2 uz2 st2 hQ2
          subst ul2 uy2 uz2
          obtain ⟨rfl, Nq2, e2⟩ := hQ2
          have N2 := Fr.app N1 Nq2
          refine own_go (b := T2.setTop (mkF m 52 #[.val (.int u1), .unset] [(.int (own_in_0 u1 (123 : Int32) (191 : Int32)))])) (fun t k => ?_) ?_
          · show Steps p.tables e below (T1.setTop (mkF m 40 #[.val (.int u1), .unset] [(.int (96 : Int32)), (.int u1)])) _
            refine XS.icmpNo X1.here hx rfl (hb hby d2_40) rfl (feq hc40).1 ?_
            show Steps p.tables e below (T1.setTop (mkF m 43 #[.val (.int u1), .unset] [])) _
            refine XS.iloadN X1.here hx rfl (hb hby d2_43) rfl ?_
            show Steps p.tables e below (T1.setTop (mkF m 44 #[.val (.int u1), .unset] [(.int u1)])) _
            refine XS.bipush X1.here hx rfl (hb hby d2_44) ?_
            show Steps p.tables e below (T1.setTop (mkF m 46 #[.val (.int u1), .unset] [(.int (123 : Int32)), (.int u1)])) _
            refine XS.sipush X1.here hx rfl (hb hby d2_46) ?_
            show Steps p.tables e below (T1.setTop (mkF m 49 #[.val (.int u1), .unset] [(.int (191 : Int32)), (.int (123 : Int32)), (.int u1)])) _
            refine st2 _ ?_
            show Steps p.tables e below (T2.setTop (mkF m 52 #[.val (.int u1), .unset] [(.int (own_in_0 u1 (123 : Int32) (191 : Int32)))])) _
            exact k
          by_cases hc52 : (own_in_0 u1 (123 : Int32) (191 : Int32)) = (0 : Int32)
          · refine own_go (b := T2.setTop (mkF m 59 #[.val (.int u1), .unset] [(.int (215 : Int32)), (.int u1)])) (fun t k => ?_) ?_
            · show Steps p.tables e below (T2.setTop (mkF m 52 #[.val (.int u1), .unset] [(.int (own_in_0 u1 (123 : Int32) (191 : Int32)))])) _
              refine XS.ifNo X2.here hx rfl (hb hby d2_52) rfl ((if0 _ _).trans (teq hc52).2) ?_
              show Steps p.tables e below (T2.setTop (mkF m 55 #[.val (.int u1), .unset] [])) _
              refine XS.iloadN X2.here hx rfl (hb hby d2_55) rfl ?_
              show Steps p.tables e below (T2.setTop (mkF m 56 #[.val (.int u1), .unset] [(.int u1)])) _
              refine XS.sipush X2.here hx rfl (hb hby d2_56) ?_
              show Steps p.tables e below (T2.setTop (mkF m 59 #[.val (.int u1), .unset] [(.int (215 : Int32)), (.int u1)])) _
              exact k
            by_cases hc59 : u1 = (215 : Int32)
            · refine own_go (b := T2.setTop (mkF m 174 #[.val (.int u1), .unset] [])) (fun t k => ?_) ?_
              · show Steps p.tables e below (T2.setTop (mkF m 59 #[.val (.int u1), .unset] [(.int (215 : Int32)), (.int u1)])) _
                refine XS.icmpYes X2.here hx rfl (pc0 := 59) (pc' := 174) rfl (hb hby d2_59) rfl (teq hc59).1 (by decide) (by decide) ?_
                show Steps p.tables e below (T2.setTop (mkF m 174 #[.val (.int u1), .unset] [])) _
                exact k
              exact J174 T2 _ X2 N2 e2    (by rw [own_ref_0, if_neg hc3, if_neg hc21, if_pos hc34, if_neg hc40, if_pos hc52, if_pos hc59])
            · refine own_go (b := T2.setTop (mkF m 66 #[.val (.int u1), .unset] [(.int (247 : Int32)), (.int u1)])) (fun t k => ?_) ?_
              · show Steps p.tables e below (T2.setTop (mkF m 59 #[.val (.int u1), .unset] [(.int (215 : Int32)), (.int u1)])) _
                refine XS.icmpNo X2.here hx rfl (hb hby d2_59) rfl (feq hc59).1 ?_
                show Steps p.tables e below (T2.setTop (mkF m 62 #[.val (.int u1), .unset] [])) _
                refine XS.iloadN X2.here hx rfl (hb hby d2_62) rfl ?_
                show Steps p.tables e below (T2.setTop (mkF m 63 #[.val (.int u1), .unset] [(.int u1)])) _
                refine XS.sipush X2.here hx rfl (hb hby d2_63) ?_
                show Steps p.tables e below (T2.setTop (mkF m 66 #[.val (.int u1), .unset] [(.int (247 : Int32)), (.int u1)])) _
                exact k
              by_cases hc66 : u1 = (247 : Int32)
              · refine own_go (b := T2.setTop (mkF m 174 #[.val (.int u1), .unset] [])) (fun t k => ?_) ?_
                · show Steps p.tables e below (T2.setTop (mkF m 66 #[.val (.int u1), .unset] [(.int (247 : Int32)), (.int u1)])) _
                  refine XS.icmpYes X2.here hx rfl (pc0 := 66) (pc' := 174) rfl (hb hby d2_66) rfl (teq hc66).1 (by decide) (by decide) ?_
                  show Steps p.tables e below (T2.setTop (mkF m 174 #[.val (.int u1), .unset] [])) _
                  exact k
                exact J174 T2 _ X2 N2 e2    (by rw [own_ref_0, if_neg hc3, if_neg hc21, if_pos hc34, if_neg hc40, if_pos hc52, if_neg hc59, if_pos hc66])
              · obtain ⟨_, _, ⟨T3, uL3, uk3, un3⟩, -, X3, ⟨Lc3, hQ3, ul3, uy3, uz3⟩, st3⟩ := Jvm.LawKit.callS X2 hx (y := (⟨"com/example/kdata/kdata/XmlCharsIsNameStartCharPinLaw", "in", "(III)Z"⟩ : MethodName)) hown (mvT hZ (hw _ (List.mem_of_getElem? (i := 19) rfl))) (mvT hZ (hw _ (List.mem_of_getElem? (i := 20) rfl))) (mvT hZ (hw _ (List.mem_of_getElem? (i := 17) rfl))) (mvT hZ (hw _ (List.mem_of_getElem? (i := 21) rfl))) (by decide) (backOf (W := 0) (rm1 l Z a0 hw [] u1 (768 : Int32) (879 : Int32) h0 n0 Z0 ) hZ (hw _ (List.mem_of_getElem? (i := 21) rfl)) (hw _ (List.mem_of_getElem? (i := 17) rfl)) (by decide) (by decide)) (g := (mkF m 76 #[.val (.int u1), .unset] [(.int (879 : Int32)), (.int (768 : Int32)), (.int u1)])) rfl (by rw [hml]; rfl) (argsL := [(.int u1), (.int (768 : Int32)), (.int (879 : Int32))]) (rest := []) (lenOf pd__28III_29Z rfl) rfl (by show 2 * 0 + _ ≤ _; exact Nat.le_of_eq rfl) (hb hby d2_76) (fun _ _ => ⟨rfl, e2, (by decide : 0 + 0 ≤ _), (by decide : 0 + 0 ≤ _)⟩)
                dsimp only [Pt.U, Pt.locs, Pt.cells, Pt.slots] at X3 ul3 uy3 uz3 st3 hQ3
                subst ul3 uy3 uz3
                obtain ⟨rfl, Nq3, e3⟩ := hQ3
                have N3 := Fr.app N2 Nq3
                refine own_go (b := T3.setTop (mkF m 79 #[.val (.int u1), .unset] [(.int (own_in_0 u1 (768 : Int32) (879 : Int32)))])) (fun t k => ?_) ?_
                · show Steps p.tables e below (T2.setTop (mkF m 66 #[.val (.int u1), .unset] [(.int (247 : Int32)), (.int u1)])) _
                  refine XS.icmpNo X2.here hx rfl (hb hby d2_66) rfl (feq hc66).1 ?_
                  show Steps p.tables e below (T2.setTop (mkF m 69 #[.val (.int u1), .unset] [])) _
                  refine XS.iloadN X2.here hx rfl (hb hby d2_69) rfl ?_
                  show Steps p.tables e below (T2.setTop (mkF m 70 #[.val (.int u1), .unset] [(.int u1)])) _
                  refine XS.sipush X2.here hx rfl (hb hby d2_70) ?_
                  show Steps p.tables e below (T2.setTop (mkF m 73 #[.val (.int u1), .unset] [(.int (768 : Int32)), (.int u1)])) _
                  refine XS.sipush X2.here hx rfl (hb hby d2_73) ?_
                  show Steps p.tables e below (T2.setTop (mkF m 76 #[.val (.int u1), .unset] [(.int (879 : Int32)), (.int (768 : Int32)), (.int u1)])) _
                  refine st3 _ ?_
                  show Steps p.tables e below (T3.setTop (mkF m 79 #[.val (.int u1), .unset] [(.int (own_in_0 u1 (768 : Int32) (879 : Int32)))])) _
                  exact k
                by_cases hc79 : (own_in_0 u1 (768 : Int32) (879 : Int32)) = (0 : Int32)
                · refine own_go (b := T3.setTop (mkF m 86 #[.val (.int u1), .unset] [(.int (894 : Int32)), (.int u1)])) (fun t k => ?_) ?_
                  · show Steps p.tables e below (T3.setTop (mkF m 79 #[.val (.int u1), .unset] [(.int (own_in_0 u1 (768 : Int32) (879 : Int32)))])) _
                    refine XS.ifNo X3.here hx rfl (hb hby d2_79) rfl ((if0 _ _).trans (teq hc79).2) ?_
                    show Steps p.tables e below (T3.setTop (mkF m 82 #[.val (.int u1), .unset] [])) _
                    refine XS.iloadN X3.here hx rfl (hb hby d2_82) rfl ?_
                    show Steps p.tables e below (T3.setTop (mkF m 83 #[.val (.int u1), .unset] [(.int u1)])) _
                    refine XS.sipush X3.here hx rfl (hb hby d2_83) ?_
                    show Steps p.tables e below (T3.setTop (mkF m 86 #[.val (.int u1), .unset] [(.int (894 : Int32)), (.int u1)])) _
                    exact k
                  by_cases hc86 : u1 = (894 : Int32)
                  · refine own_go (b := T3.setTop (mkF m 174 #[.val (.int u1), .unset] [])) (fun t k => ?_) ?_
                    · show Steps p.tables e below (T3.setTop (mkF m 86 #[.val (.int u1), .unset] [(.int (894 : Int32)), (.int u1)])) _
                      refine XS.icmpYes X3.here hx rfl (pc0 := 86) (pc' := 174) rfl (hb hby d2_86) rfl (teq hc86).1 (by decide) (by decide) ?_
                      show Steps p.tables e below (T3.setTop (mkF m 174 #[.val (.int u1), .unset] [])) _
                      exact k
                    exact J174 T3 _ X3 N3 e3    (by rw [own_ref_0, if_neg hc3, if_neg hc21, if_pos hc34, if_neg hc40, if_pos hc52, if_neg hc59, if_neg hc66, if_pos hc79, if_pos hc86])
                  · obtain ⟨_, _, ⟨T4, uL4, uk4, un4⟩, -, X4, ⟨Lc4, hQ4, ul4, uy4, uz4⟩, st4⟩ := Jvm.LawKit.callS X3 hx (y := (⟨"com/example/kdata/kdata/XmlCharsIsNameStartCharPinLaw", "in", "(III)Z"⟩ : MethodName)) hown (mvT hZ (hw _ (List.mem_of_getElem? (i := 19) rfl))) (mvT hZ (hw _ (List.mem_of_getElem? (i := 20) rfl))) (mvT hZ (hw _ (List.mem_of_getElem? (i := 17) rfl))) (mvT hZ (hw _ (List.mem_of_getElem? (i := 21) rfl))) (by decide) (backOf (W := 0) (rm1 l Z a0 hw [] u1 (8192 : Int32) (8203 : Int32) h0 n0 Z0 ) hZ (hw _ (List.mem_of_getElem? (i := 21) rfl)) (hw _ (List.mem_of_getElem? (i := 17) rfl)) (by decide) (by decide)) (g := (mkF m 96 #[.val (.int u1), .unset] [(.int (8203 : Int32)), (.int (8192 : Int32)), (.int u1)])) rfl (by rw [hml]; rfl) (argsL := [(.int u1), (.int (8192 : Int32)), (.int (8203 : Int32))]) (rest := []) (lenOf pd__28III_29Z rfl) rfl (by show 2 * 0 + _ ≤ _; exact Nat.le_of_eq rfl) (hb hby d2_96) (fun _ _ => ⟨rfl, e3, (by decide : 0 + 0 ≤ _), (by decide : 0 + 0 ≤ _)⟩)
                    dsimp only [Pt.U, Pt.locs, Pt.cells, Pt.slots] at X4 ul4 uy4 uz4 st4 hQ4
                    subst ul4 uy4 uz4
                    obtain ⟨rfl, Nq4, e4⟩ := hQ4
                    have N4 := Fr.app N3 Nq4
                    refine own_go (b := T4.setTop (mkF m 99 #[.val (.int u1), .unset] [(.int (own_in_0 u1 (8192 : Int32) (8203 : Int32)))])) (fun t k => ?_) ?_
                    · show Steps p.tables e below (T3.setTop (mkF m 86 #[.val (.int u1), .unset] [(.int (894 : Int32)), (.int u1)])) _
                      refine XS.icmpNo X3.here hx rfl (hb hby d2_86) rfl (feq hc86).1 ?_
                      show Steps p.tables e below (T3.setTop (mkF m 89 #[.val (.int u1), .unset] [])) _
                      refine XS.iloadN X3.here hx rfl (hb hby d2_89) rfl ?_
                      show Steps p.tables e below (T3.setTop (mkF m 90 #[.val (.int u1), .unset] [(.int u1)])) _
                      refine XS.sipush X3.here hx rfl (hb hby d2_90) ?_
                      show Steps p.tables e below (T3.setTop (mkF m 93 #[.val (.int u1), .unset] [(.int (8192 : Int32)), (.int u1)])) _
                      refine XS.sipush X3.here hx rfl (hb hby d2_93) ?_
                      show Steps p.tables e below (T3.setTop (mkF m 96 #[.val (.int u1), .unset] [(.int (8203 : Int32)), (.int (8192 : Int32)), (.int u1)])) _
                      refine st4 _ ?_
                      show Steps p.tables e below (T4.setTop (mkF m 99 #[.val (.int u1), .unset] [(.int (own_in_0 u1 (8192 : Int32) (8203 : Int32)))])) _
                      exact k
                    by_cases hc99 : (own_in_0 u1 (8192 : Int32) (8203 : Int32)) = (0 : Int32)
                    · obtain ⟨_, _, ⟨T5, uL5, uk5, un5⟩, -, X5, ⟨Lc5, hQ5, ul5, uy5, uz5⟩, st5⟩ := Jvm.LawKit.callS X4 hx (y := (⟨"com/example/kdata/kdata/XmlCharsIsNameStartCharPinLaw", "in", "(III)Z"⟩ : MethodName)) hown (mvT hZ (hw _ (List.mem_of_getElem? (i := 19) rfl))) (mvT hZ (hw _ (List.mem_of_getElem? (i := 20) rfl))) (mvT hZ (hw _ (List.mem_of_getElem? (i := 17) rfl))) (mvT hZ (hw _ (List.mem_of_getElem? (i := 21) rfl))) (by decide) (backOf (W := 0) (rm1 l Z a0 hw [] u1 (8206 : Int32) (8303 : Int32) h0 n0 Z0 ) hZ (hw _ (List.mem_of_getElem? (i := 21) rfl)) (hw _ (List.mem_of_getElem? (i := 17) rfl)) (by decide) (by decide)) (g := (mkF m 109 #[.val (.int u1), .unset] [(.int (8303 : Int32)), (.int (8206 : Int32)), (.int u1)])) rfl (by rw [hml]; rfl) (argsL := [(.int u1), (.int (8206 : Int32)), (.int (8303 : Int32))]) (rest := []) (lenOf pd__28III_29Z rfl) rfl (by show 2 * 0 + _ ≤ _; exact Nat.le_of_eq rfl) (hb hby d2_109) (fun _ _ => ⟨rfl, e4, (by decide : 0 + 0 ≤ _), (by decide : 0 + 0 ≤ _)⟩)
                      dsimp only [Pt.U, Pt.locs, Pt.cells, Pt.slots] at X5 ul5 uy5 uz5 st5 hQ5
                      subst ul5 uy5 uz5
                      obtain ⟨rfl, Nq5, e5⟩ := hQ5
                      have N5 := Fr.app N4 Nq5
                      refine own_go (b := T5.setTop (mkF m 112 #[.val (.int u1), .unset] [(.int (own_in_0 u1 (8206 : Int32) (8303 : Int32)))])) (fun t k => ?_) ?_
                      · show Steps p.tables e below (T4.setTop (mkF m 99 #[.val (.int u1), .unset] [(.int (own_in_0 u1 (8192 : Int32) (8203 : Int32)))])) _
                        refine XS.ifNo X4.here hx rfl (hb hby d2_99) rfl ((if0 _ _).trans (teq hc99).2) ?_
                        show Steps p.tables e below (T4.setTop (mkF m 102 #[.val (.int u1), .unset] [])) _
                        refine XS.iloadN X4.here hx rfl (hb hby d2_102) rfl ?_
                        show Steps p.tables e below (T4.setTop (mkF m 103 #[.val (.int u1), .unset] [(.int u1)])) _
                        refine XS.sipush X4.here hx rfl (hb hby d2_103) ?_
                        show Steps p.tables e below (T4.setTop (mkF m 106 #[.val (.int u1), .unset] [(.int (8206 : Int32)), (.int u1)])) _
                        refine XS.sipush X4.here hx rfl (hb hby d2_106) ?_
                        show Steps p.tables e below (T4.setTop (mkF m 109 #[.val (.int u1), .unset] [(.int (8303 : Int32)), (.int (8206 : Int32)), (.int u1)])) _
                        refine st5 _ ?_
                        show Steps p.tables e below (T5.setTop (mkF m 112 #[.val (.int u1), .unset] [(.int (own_in_0 u1 (8206 : Int32) (8303 : Int32)))])) _
                        exact k
                      by_cases hc112 : (own_in_0 u1 (8206 : Int32) (8303 : Int32)) = (0 : Int32)
                      · obtain ⟨_, _, ⟨T6, uL6, uk6, un6⟩, -, X6, ⟨Lc6, hQ6, ul6, uy6, uz6⟩, st6⟩ := Jvm.LawKit.callS X5 hx (y := (⟨"com/example/kdata/kdata/XmlCharsIsNameStartCharPinLaw", "in", "(III)Z"⟩ : MethodName)) hown (mvT hZ (hw _ (List.mem_of_getElem? (i := 19) rfl))) (mvT hZ (hw _ (List.mem_of_getElem? (i := 20) rfl))) (mvT hZ (hw _ (List.mem_of_getElem? (i := 17) rfl))) (mvT hZ (hw _ (List.mem_of_getElem? (i := 21) rfl))) (by decide) (backOf (W := 0) (rm1 l Z a0 hw [] u1 (8592 : Int32) (11263 : Int32) h0 n0 Z0 ) hZ (hw _ (List.mem_of_getElem? (i := 21) rfl)) (hw _ (List.mem_of_getElem? (i := 17) rfl)) (by decide) (by decide)) (g := (mkF m 122 #[.val (.int u1), .unset] [(.int (11263 : Int32)), (.int (8592 : Int32)), (.int u1)])) rfl (by rw [hml]; rfl) (argsL := [(.int u1), (.int (8592 : Int32)), (.int (11263 : Int32))]) (rest := []) (lenOf pd__28III_29Z rfl) rfl (by show 2 * 0 + _ ≤ _; exact Nat.le_of_eq rfl) (hb hby d2_122) (fun _ _ => ⟨rfl, e5, (by decide : 0 + 0 ≤ _), (by decide : 0 + 0 ≤ _)⟩)
                        dsimp only [Pt.U, Pt.locs, Pt.cells, Pt.slots] at X6 ul6 uy6 uz6 st6 hQ6
                        subst ul6 uy6 uz6
                        obtain ⟨rfl, Nq6, e6⟩ := hQ6
                        have N6 := Fr.app N5 Nq6
                        refine own_go (b := T6.setTop (mkF m 125 #[.val (.int u1), .unset] [(.int (own_in_0 u1 (8592 : Int32) (11263 : Int32)))])) (fun t k => ?_) ?_
                        · show Steps p.tables e below (T5.setTop (mkF m 112 #[.val (.int u1), .unset] [(.int (own_in_0 u1 (8206 : Int32) (8303 : Int32)))])) _
                          refine XS.ifNo X5.here hx rfl (hb hby d2_112) rfl ((if0 _ _).trans (teq hc112).2) ?_
                          show Steps p.tables e below (T5.setTop (mkF m 115 #[.val (.int u1), .unset] [])) _
                          refine XS.iloadN X5.here hx rfl (hb hby d2_115) rfl ?_
                          show Steps p.tables e below (T5.setTop (mkF m 116 #[.val (.int u1), .unset] [(.int u1)])) _
                          refine XS.sipush X5.here hx rfl (hb hby d2_116) ?_
                          show Steps p.tables e below (T5.setTop (mkF m 119 #[.val (.int u1), .unset] [(.int (8592 : Int32)), (.int u1)])) _
                          refine XS.sipush X5.here hx rfl (hb hby d2_119) ?_
                          show Steps p.tables e below (T5.setTop (mkF m 122 #[.val (.int u1), .unset] [(.int (11263 : Int32)), (.int (8592 : Int32)), (.int u1)])) _
                          refine st6 _ ?_
                          show Steps p.tables e below (T6.setTop (mkF m 125 #[.val (.int u1), .unset] [(.int (own_in_0 u1 (8592 : Int32) (11263 : Int32)))])) _
                          exact k
                        by_cases hc125 : (own_in_0 u1 (8592 : Int32) (11263 : Int32)) = (0 : Int32)
                        · obtain ⟨_, _, ⟨T7, uL7, uk7, un7⟩, -, X7, ⟨Lc7, hQ7, ul7, uy7, uz7⟩, st7⟩ := Jvm.LawKit.callS X6 hx (y := (⟨"com/example/kdata/kdata/XmlCharsIsNameStartCharPinLaw", "in", "(III)Z"⟩ : MethodName)) hown (mvT hZ (hw _ (List.mem_of_getElem? (i := 19) rfl))) (mvT hZ (hw _ (List.mem_of_getElem? (i := 20) rfl))) (mvT hZ (hw _ (List.mem_of_getElem? (i := 17) rfl))) (mvT hZ (hw _ (List.mem_of_getElem? (i := 21) rfl))) (by decide) (backOf (W := 0) (rm1 l Z a0 hw [] u1 (12272 : Int32) (12288 : Int32) h0 n0 Z0 ) hZ (hw _ (List.mem_of_getElem? (i := 21) rfl)) (hw _ (List.mem_of_getElem? (i := 17) rfl)) (by decide) (by decide)) (g := (mkF m 135 #[.val (.int u1), .unset] [(.int (12288 : Int32)), (.int (12272 : Int32)), (.int u1)])) rfl (by rw [hml]; rfl) (argsL := [(.int u1), (.int (12272 : Int32)), (.int (12288 : Int32))]) (rest := []) (lenOf pd__28III_29Z rfl) rfl (by show 2 * 0 + _ ≤ _; exact Nat.le_of_eq rfl) (hb hby d2_135) (fun _ _ => ⟨rfl, e6, (by decide : 0 + 0 ≤ _), (by decide : 0 + 0 ≤ _)⟩)
                          dsimp only [Pt.U, Pt.locs, Pt.cells, Pt.slots] at X7 ul7 uy7 uz7 st7 hQ7
                          subst ul7 uy7 uz7
                          obtain ⟨rfl, Nq7, e7⟩ := hQ7
                          have N7 := Fr.app N6 Nq7
                          refine own_go (b := T7.setTop (mkF m 138 #[.val (.int u1), .unset] [(.int (own_in_0 u1 (12272 : Int32) (12288 : Int32)))])) (fun t k => ?_) ?_
                          · show Steps p.tables e below (T6.setTop (mkF m 125 #[.val (.int u1), .unset] [(.int (own_in_0 u1 (8592 : Int32) (11263 : Int32)))])) _
                            refine XS.ifNo X6.here hx rfl (hb hby d2_125) rfl ((if0 _ _).trans (teq hc125).2) ?_
                            show Steps p.tables e below (T6.setTop (mkF m 128 #[.val (.int u1), .unset] [])) _
                            refine XS.iloadN X6.here hx rfl (hb hby d2_128) rfl ?_
                            show Steps p.tables e below (T6.setTop (mkF m 129 #[.val (.int u1), .unset] [(.int u1)])) _
                            refine XS.sipush X6.here hx rfl (hb hby d2_129) ?_
                            show Steps p.tables e below (T6.setTop (mkF m 132 #[.val (.int u1), .unset] [(.int (12272 : Int32)), (.int u1)])) _
                            refine XS.sipush X6.here hx rfl (hb hby d2_132) ?_
                            show Steps p.tables e below (T6.setTop (mkF m 135 #[.val (.int u1), .unset] [(.int (12288 : Int32)), (.int (12272 : Int32)), (.int u1)])) _
                            refine st7 _ ?_
                            show Steps p.tables e below (T7.setTop (mkF m 138 #[.val (.int u1), .unset] [(.int (own_in_0 u1 (12272 : Int32) (12288 : Int32)))])) _
                            exact k
                          by_cases hc138 : (own_in_0 u1 (12272 : Int32) (12288 : Int32)) = (0 : Int32)
                          · obtain ⟨_, _, ⟨T8, uL8, uk8, un8⟩, -, X8, ⟨Lc8, hQ8, ul8, uy8, uz8⟩, st8⟩ := Jvm.LawKit.callS X7 hx (y := (⟨"com/example/kdata/kdata/XmlCharsIsNameStartCharPinLaw", "in", "(III)Z"⟩ : MethodName)) hown (mvT hZ (hw _ (List.mem_of_getElem? (i := 19) rfl))) (mvT hZ (hw _ (List.mem_of_getElem? (i := 20) rfl))) (mvT hZ (hw _ (List.mem_of_getElem? (i := 17) rfl))) (mvT hZ (hw _ (List.mem_of_getElem? (i := 21) rfl))) (by decide) (backOf (W := 0) (rm1 l Z a0 hw [] u1 (55296 : Int32) (63743 : Int32) h0 n0 Z0 ) hZ (hw _ (List.mem_of_getElem? (i := 21) rfl)) (hw _ (List.mem_of_getElem? (i := 17) rfl)) (by decide) (by decide)) (g := (mkF m 146 #[.val (.int u1), .unset] [(.int (63743 : Int32)), (.int (55296 : Int32)), (.int u1)])) rfl (by rw [hml]; rfl) (argsL := [(.int u1), (.int (55296 : Int32)), (.int (63743 : Int32))]) (rest := []) (lenOf pd__28III_29Z rfl) rfl (by show 2 * 0 + _ ≤ _; exact Nat.le_of_eq rfl) (hb hby d2_146) (fun _ _ => ⟨rfl, e7, (by decide : 0 + 0 ≤ _), (by decide : 0 + 0 ≤ _)⟩)
                            dsimp only [Pt.U, Pt.locs, Pt.cells, Pt.slots] at X8 ul8 uy8 uz8 st8 hQ8
                            subst ul8 uy8 uz8
                            obtain ⟨rfl, Nq8, e8⟩ := hQ8
                            have N8 := Fr.app N7 Nq8
                            refine own_go (b := T8.setTop (mkF m 149 #[.val (.int u1), .unset] [(.int (own_in_0 u1 (55296 : Int32) (63743 : Int32)))])) (fun t k => ?_) ?_
                            · show Steps p.tables e below (T7.setTop (mkF m 138 #[.val (.int u1), .unset] [(.int (own_in_0 u1 (12272 : Int32) (12288 : Int32)))])) _
                              refine XS.ifNo X7.here hx rfl (hb hby d2_138) rfl ((if0 _ _).trans (teq hc138).2) ?_
                              show Steps p.tables e below (T7.setTop (mkF m 141 #[.val (.int u1), .unset] [])) _
                              refine XS.iloadN X7.here hx rfl (hb hby d2_141) rfl ?_
                              show Steps p.tables e below (T7.setTop (mkF m 142 #[.val (.int u1), .unset] [(.int u1)])) _
                              refine X7.ldcI hx hown (mvT hZ (hw _ (List.mem_of_getElem? (i := 25) rfl))) rfl (hb hby d2_142) ?_
                              show Steps p.tables e below (T7.setTop (mkF m 144 #[.val (.int u1), .unset] [(.int (55296 : Int32)), (.int u1)])) _
                              refine X7.ldcI hx hown (mvT hZ (hw _ (List.mem_of_getElem? (i := 26) rfl))) rfl (hb hby d2_144) ?_
                              show Steps p.tables e below (T7.setTop (mkF m 146 #[.val (.int u1), .unset] [(.int (63743 : Int32)), (.int (55296 : Int32)), (.int u1)])) _
                              refine st8 _ ?_
                              show Steps p.tables e below (T8.setTop (mkF m 149 #[.val (.int u1), .unset] [(.int (own_in_0 u1 (55296 : Int32) (63743 : Int32)))])) _
                              exact k
                            by_cases hc149 : (own_in_0 u1 (55296 : Int32) (63743 : Int32)) = (0 : Int32)
                            · obtain ⟨_, _, ⟨T9, uL9, uk9, un9⟩, -, X9, ⟨Lc9, hQ9, ul9, uy9, uz9⟩, st9⟩ := Jvm.LawKit.callS X8 hx (y := (⟨"com/example/kdata/kdata/XmlCharsIsNameStartCharPinLaw", "in", "(III)Z"⟩ : MethodName)) hown (mvT hZ (hw _ (List.mem_of_getElem? (i := 19) rfl))) (mvT hZ (hw _ (List.mem_of_getElem? (i := 20) rfl))) (mvT hZ (hw _ (List.mem_of_getElem? (i := 17) rfl))) (mvT hZ (hw _ (List.mem_of_getElem? (i := 21) rfl))) (by decide) (backOf (W := 0) (rm1 l Z a0 hw [] u1 (64976 : Int32) (65007 : Int32) h0 n0 Z0 ) hZ (hw _ (List.mem_of_getElem? (i := 21) rfl)) (hw _ (List.mem_of_getElem? (i := 17) rfl)) (by decide) (by decide)) (g := (mkF m 157 #[.val (.int u1), .unset] [(.int (65007 : Int32)), (.int (64976 : Int32)), (.int u1)])) rfl (by rw [hml]; rfl) (argsL := [(.int u1), (.int (64976 : Int32)), (.int (65007 : Int32))]) (rest := []) (lenOf pd__28III_29Z rfl) rfl (by show 2 * 0 + _ ≤ _; exact Nat.le_of_eq rfl) (hb hby d2_157) (fun _ _ => ⟨rfl, e8, (by decide : 0 + 0 ≤ _), (by decide : 0 + 0 ≤ _)⟩)
                              dsimp only [Pt.U, Pt.locs, Pt.cells, Pt.slots] at X9 ul9 uy9 uz9 st9 hQ9
                              subst ul9 uy9 uz9
                              obtain ⟨rfl, Nq9, e9⟩ := hQ9
                              have N9 := Fr.app N8 Nq9
                              refine own_go (b := T9.setTop (mkF m 160 #[.val (.int u1), .unset] [(.int (own_in_0 u1 (64976 : Int32) (65007 : Int32)))])) (fun t k => ?_) ?_
                              · show Steps p.tables e below (T8.setTop (mkF m 149 #[.val (.int u1), .unset] [(.int (own_in_0 u1 (55296 : Int32) (63743 : Int32)))])) _
                                refine XS.ifNo X8.here hx rfl (hb hby d2_149) rfl ((if0 _ _).trans (teq hc149).2) ?_
                                show Steps p.tables e below (T8.setTop (mkF m 152 #[.val (.int u1), .unset] [])) _
                                refine XS.iloadN X8.here hx rfl (hb hby d2_152) rfl ?_
                                show Steps p.tables e below (T8.setTop (mkF m 153 #[.val (.int u1), .unset] [(.int u1)])) _
                                refine X8.ldcI hx hown (mvT hZ (hw _ (List.mem_of_getElem? (i := 27) rfl))) rfl (hb hby d2_153) ?_
                                show Steps p.tables e below (T8.setTop (mkF m 155 #[.val (.int u1), .unset] [(.int (64976 : Int32)), (.int u1)])) _
                                refine X8.ldcI hx hown (mvT hZ (hw _ (List.mem_of_getElem? (i := 28) rfl))) rfl (hb hby d2_155) ?_
                                show Steps p.tables e below (T8.setTop (mkF m 157 #[.val (.int u1), .unset] [(.int (65007 : Int32)), (.int (64976 : Int32)), (.int u1)])) _
                                refine st9 _ ?_
                                show Steps p.tables e below (T9.setTop (mkF m 160 #[.val (.int u1), .unset] [(.int (own_in_0 u1 (64976 : Int32) (65007 : Int32)))])) _
                                exact k
                              by_cases hc160 : (own_in_0 u1 (64976 : Int32) (65007 : Int32)) = (0 : Int32)
                              · obtain ⟨_, _, ⟨T10, uL10, uk10, un10⟩, -, X10, ⟨Lc10, hQ10, ul10, uy10, uz10⟩, st10⟩ := Jvm.LawKit.callS X9 hx (y := (⟨"com/example/kdata/kdata/XmlCharsIsNameStartCharPinLaw", "in", "(III)Z"⟩ : MethodName)) hown (mvT hZ (hw _ (List.mem_of_getElem? (i := 19) rfl))) (mvT hZ (hw _ (List.mem_of_getElem? (i := 20) rfl))) (mvT hZ (hw _ (List.mem_of_getElem? (i := 17) rfl))) (mvT hZ (hw _ (List.mem_of_getElem? (i := 21) rfl))) (by decide) (backOf (W := 0) (rm1 l Z a0 hw [] u1 (65534 : Int32) (65535 : Int32) h0 n0 Z0 ) hZ (hw _ (List.mem_of_getElem? (i := 21) rfl)) (hw _ (List.mem_of_getElem? (i := 17) rfl)) (by decide) (by decide)) (g := (mkF m 168 #[.val (.int u1), .unset] [(.int (65535 : Int32)), (.int (65534 : Int32)), (.int u1)])) rfl (by rw [hml]; rfl) (argsL := [(.int u1), (.int (65534 : Int32)), (.int (65535 : Int32))]) (rest := []) (lenOf pd__28III_29Z rfl) rfl (by show 2 * 0 + _ ≤ _; exact Nat.le_of_eq rfl) (hb hby d2_168) (fun _ _ => ⟨rfl, e9, (by decide : 0 + 0 ≤ _), (by decide : 0 + 0 ≤ _)⟩)
                                dsimp only [Pt.U, Pt.locs, Pt.cells, Pt.slots] at X10 ul10 uy10 uz10 st10 hQ10
                                subst ul10 uy10 uz10
                                obtain ⟨rfl, Nq10, e10⟩ := hQ10
                                have N10 := Fr.app N9 Nq10
                                refine own_go (b := T10.setTop (mkF m 171 #[.val (.int u1), .unset] [(.int (own_in_0 u1 (65534 : Int32) (65535 : Int32)))])) (fun t k => ?_) ?_
                                · show Steps p.tables e below (T9.setTop (mkF m 160 #[.val (.int u1), .unset] [(.int (own_in_0 u1 (64976 : Int32) (65007 : Int32)))])) _
                                  refine XS.ifNo X9.here hx rfl (hb hby d2_160) rfl ((if0 _ _).trans (teq hc160).2) ?_
                                  show Steps p.tables e below (T9.setTop (mkF m 163 #[.val (.int u1), .unset] [])) _
                                  refine XS.iloadN X9.here hx rfl (hb hby d2_163) rfl ?_
                                  show Steps p.tables e below (T9.setTop (mkF m 164 #[.val (.int u1), .unset] [(.int u1)])) _
                                  refine X9.ldcI hx hown (mvT hZ (hw _ (List.mem_of_getElem? (i := 29) rfl))) rfl (hb hby d2_164) ?_
                                  show Steps p.tables e below (T9.setTop (mkF m 166 #[.val (.int u1), .unset] [(.int (65534 : Int32)), (.int u1)])) _
                                  refine X9.ldcI hx hown (mvT hZ (hw _ (List.mem_of_getElem? (i := 30) rfl))) rfl (hb hby d2_166) ?_
                                  show Steps p.tables e below (T9.setTop (mkF m 168 #[.val (.int u1), .unset] [(.int (65535 : Int32)), (.int (65534 : Int32)), (.int u1)])) _
                                  refine st10 _ ?_
                                  show Steps p.tables e below (T10.setTop (mkF m 171 #[.val (.int u1), .unset] [(.int (own_in_0 u1 (65534 : Int32) (65535 : Int32)))])) _
                                  exact k
                                by_cases hc171 : (own_in_0 u1 (65534 : Int32) (65535 : Int32)) = (0 : Int32)
                                · refine own_go (b := T10.setTop (mkF m 179 #[.val (.int u1), .unset] [(.int (0 : Int32))])) (fun t k => ?_) ?_
                                  · show Steps p.tables e below (T10.setTop (mkF m 171 #[.val (.int u1), .unset] [(.int (own_in_0 u1 (65534 : Int32) (65535 : Int32)))])) _
                                    refine XS.ifYes X10.here hx rfl (pc0 := 171) (pc' := 178) rfl (hb hby d2_171) rfl ((if0 _ _).trans (teq hc171).1) (by decide) (by decide) ?_
                                    show Steps p.tables e below (T10.setTop (mkF m 178 #[.val (.int u1), .unset] [])) _
                                    refine XS.iconst X10.here hx rfl (hb hby d2_178) ?_
                                    show Steps p.tables e below (T10.setTop (mkF m 179 #[.val (.int u1), .unset] [(.int (0 : Int32))])) _
                                    exact k
                                  exact J179 T10 _ X10 N10 e10 (0 : Int32)   (by rw [own_ref_0, if_neg hc3, if_neg hc21, if_pos hc34, if_neg hc40, if_pos hc52, if_neg hc59, if_neg hc66, if_pos hc79, if_neg hc86, if_pos hc99, if_pos hc112, if_pos hc125, if_pos hc138, if_pos hc149, if_pos hc160, if_pos hc171])
                                · refine own_go (b := T10.setTop (mkF m 174 #[.val (.int u1), .unset] [])) (fun t k => ?_) ?_
                                  · show Steps p.tables e below (T10.setTop (mkF m 171 #[.val (.int u1), .unset] [(.int (own_in_0 u1 (65534 : Int32) (65535 : Int32)))])) _
                                    refine XS.ifNo X10.here hx rfl (hb hby d2_171) rfl ((if0 _ _).trans (feq hc171).1) ?_
                                    show Steps p.tables e below (T10.setTop (mkF m 174 #[.val (.int u1), .unset] [])) _
                                    exact k
                                  exact J174 T10 _ X10 N10 e10    (by rw [own_ref_0, if_neg hc3, if_neg hc21, if_pos hc34, if_neg hc40, if_pos hc52, if_neg hc59, if_neg hc66, if_pos hc79, if_neg hc86, if_pos hc99, if_pos hc112, if_pos hc125, if_pos hc138, if_pos hc149, if_pos hc160, if_neg hc171])
                              · refine own_go (b := T9.setTop (mkF m 174 #[.val (.int u1), .unset] [])) (fun t k => ?_) ?_
                                · show Steps p.tables e below (T9.setTop (mkF m 160 #[.val (.int u1), .unset] [(.int (own_in_0 u1 (64976 : Int32) (65007 : Int32)))])) _
                                  refine XS.ifYes X9.here hx rfl (pc0 := 160) (pc' := 174) rfl (hb hby d2_160) rfl ((if0 _ _).trans (feq hc160).2) (by decide) (by decide) ?_
                                  show Steps p.tables e below (T9.setTop (mkF m 174 #[.val (.int u1), .unset] [])) _
                                  exact k
                                exact J174 T9 _ X9 N9 e9    (by rw [own_ref_0, if_neg hc3, if_neg hc21, if_pos hc34, if_neg hc40, if_pos hc52, if_neg hc59, if_neg hc66, if_pos hc79, if_neg hc86, if_pos hc99, if_pos hc112, if_pos hc125, if_pos hc138, if_pos hc149, if_neg hc160])
                            · refine own_go (b := T8.setTop (mkF m 174 #[.val (.int u1), .unset] [])) (fun t k => ?_) ?_
                              · show Steps p.tables e below (T8.setTop (mkF m 149 #[.val (.int u1), .unset] [(.int (own_in_0 u1 (55296 : Int32) (63743 : Int32)))])) _
                                refine XS.ifYes X8.here hx rfl (pc0 := 149) (pc' := 174) rfl (hb hby d2_149) rfl ((if0 _ _).trans (feq hc149).2) (by decide) (by decide) ?_
                                show Steps p.tables e below (T8.setTop (mkF m 174 #[.val (.int u1), .unset] [])) _
                                exact k
                              exact J174 T8 _ X8 N8 e8    (by rw [own_ref_0, if_neg hc3, if_neg hc21, if_pos hc34, if_neg hc40, if_pos hc52, if_neg hc59, if_neg hc66, if_pos hc79, if_neg hc86, if_pos hc99, if_pos hc112, if_pos hc125, if_pos hc138, if_neg hc149])
                          · refine own_go (b := T7.setTop (mkF m 174 #[.val (.int u1), .unset] [])) (fun t k => ?_) ?_
                            · show Steps p.tables e below (T7.setTop (mkF m 138 #[.val (.int u1), .unset] [(.int (own_in_0 u1 (12272 : Int32) (12288 : Int32)))])) _
                              refine XS.ifYes X7.here hx rfl (pc0 := 138) (pc' := 174) rfl (hb hby d2_138) rfl ((if0 _ _).trans (feq hc138).2) (by decide) (by decide) ?_
                              show Steps p.tables e below (T7.setTop (mkF m 174 #[.val (.int u1), .unset] [])) _
                              exact k
                            exact J174 T7 _ X7 N7 e7    (by rw [own_ref_0, if_neg hc3, if_neg hc21, if_pos hc34, if_neg hc40, if_pos hc52, if_neg hc59, if_neg hc66, if_pos hc79, if_neg hc86, if_pos hc99, if_pos hc112, if_pos hc125, if_neg hc138])
                        · refine own_go (b := T6.setTop (mkF m 174 #[.val (.int u1), .unset] [])) (fun t k => ?_) ?_
                          · show Steps p.tables e below (T6.setTop (mkF m 125 #[.val (.int u1), .unset] [(.int (own_in_0 u1 (8592 : Int32) (11263 : Int32)))])) _
                            refine XS.ifYes X6.here hx rfl (pc0 := 125) (pc' := 174) rfl (hb hby d2_125) rfl ((if0 _ _).trans (feq hc125).2) (by decide) (by decide) ?_
                            show Steps p.tables e below (T6.setTop (mkF m 174 #[.val (.int u1), .unset] [])) _
                            exact k
                          exact J174 T6 _ X6 N6 e6    (by rw [own_ref_0, if_neg hc3, if_neg hc21, if_pos hc34, if_neg hc40, if_pos hc52, if_neg hc59, if_neg hc66, if_pos hc79, if_neg hc86, if_pos hc99, if_pos hc112, if_neg hc125])
                      · refine own_go (b := T5.setTop (mkF m 174 #[.val (.int u1), .unset] [])) (fun t k => ?_) ?_
                        · show Steps p.tables e below (T5.setTop (mkF m 112 #[.val (.int u1), .unset] [(.int (own_in_0 u1 (8206 : Int32) (8303 : Int32)))])) _
                          refine XS.ifYes X5.here hx rfl (pc0 := 112) (pc' := 174) rfl (hb hby d2_112) rfl ((if0 _ _).trans (feq hc112).2) (by decide) (by decide) ?_
                          show Steps p.tables e below (T5.setTop (mkF m 174 #[.val (.int u1), .unset] [])) _
                          exact k
                        exact J174 T5 _ X5 N5 e5    (by rw [own_ref_0, if_neg hc3, if_neg hc21, if_pos hc34, if_neg hc40, if_pos hc52, if_neg hc59, if_neg hc66, if_pos hc79, if_neg hc86, if_pos hc99, if_neg hc112])
                    · refine own_go (b := T4.setTop (mkF m 174 #[.val (.int u1), .unset] [])) (fun t k => ?_) ?_
                      · show Steps p.tables e below (T4.setTop (mkF m 99 #[.val (.int u1), .unset] [(.int (own_in_0 u1 (8192 : Int32) (8203 : Int32)))])) _
                        refine XS.ifYes X4.here hx rfl (pc0 := 99) (pc' := 174) rfl (hb hby d2_99) rfl ((if0 _ _).trans (feq hc99).2) (by decide) (by decide) ?_
                        show Steps p.tables e below (T4.setTop (mkF m 174 #[.val (.int u1), .unset] [])) _
                        exact k
                      exact J174 T4 _ X4 N4 e4    (by rw [own_ref_0, if_neg hc3, if_neg hc21, if_pos hc34, if_neg hc40, if_pos hc52, if_neg hc59, if_neg hc66, if_pos hc79, if_neg hc86, if_neg hc99])
                · refine own_go (b := T3.setTop (mkF m 174 #[.val (.int u1), .unset] [])) (fun t k => ?_) ?_
                  · show Steps p.tables e below (T3.setTop (mkF m 79 #[.val (.int u1), .unset] [(.int (own_in_0 u1 (768 : Int32) (879 : Int32)))])) _
                    refine XS.ifYes X3.here hx rfl (pc0 := 79) (pc' := 174) rfl (hb hby d2_79) rfl ((if0 _ _).trans (feq hc79).2) (by decide) (by decide) ?_
                    show Steps p.tables e below (T3.setTop (mkF m 174 #[.val (.int u1), .unset] [])) _
                    exact k
                  exact J174 T3 _ X3 N3 e3    (by rw [own_ref_0, if_neg hc3, if_neg hc21, if_pos hc34, if_neg hc40, if_pos hc52, if_neg hc59, if_neg hc66, if_neg hc79])
          · refine own_go (b := T2.setTop (mkF m 174 #[.val (.int u1), .unset] [])) (fun t k => ?_) ?_
            · show Steps p.tables e below (T2.setTop (mkF m 52 #[.val (.int u1), .unset] [(.int (own_in_0 u1 (123 : Int32) (191 : Int32)))])) _
              refine XS.ifYes X2.here hx rfl (pc0 := 52) (pc' := 174) rfl (hb hby d2_52) rfl ((if0 _ _).trans (feq hc52).2) (by decide) (by decide) ?_
              show Steps p.tables e below (T2.setTop (mkF m 174 #[.val (.int u1), .unset] [])) _
              exact k
            exact J174 T2 _ X2 N2 e2    (by rw [own_ref_0, if_neg hc3, if_neg hc21, if_pos hc34, if_neg hc40, if_neg hc52])
      · refine own_go (b := T1.setTop (mkF m 174 #[.val (.int u1), .unset] [])) (fun t k => ?_) ?_
        · show Steps p.tables e below (T1.setTop (mkF m 34 #[.val (.int u1), .unset] [(.int (own_in_0 u1 (91 : Int32) (94 : Int32)))])) _
          refine XS.ifYes X1.here hx rfl (pc0 := 34) (pc' := 174) rfl (hb hby d2_34) rfl ((if0 _ _).trans (feq hc34).2) (by decide) (by decide) ?_
          show Steps p.tables e below (T1.setTop (mkF m 174 #[.val (.int u1), .unset] [])) _
          exact k
        exact J174 T1 _ X1 N1 e1    (by rw [own_ref_0, if_neg hc3, if_neg hc21, if_neg hc34])
def own_ns_198 (u1 : Int32)  : Int32 :=
  if u1 < (65536 : Int32) then
    (0 : Int32)
  else
    if (983039 : Int32) < u1 then
      (0 : Int32)
    else
      (1 : Int32)
def own_ns_186 (u1 : Int32)  : Int32 :=
  if u1 < (65008 : Int32) then
    own_ns_198 u1 
  else
    if (65533 : Int32) < u1 then
      own_ns_198 u1 
    else
      (1 : Int32)
def own_ns_174 (u1 : Int32)  : Int32 :=
  if u1 < (63744 : Int32) then
    own_ns_186 u1 
  else
    if (64975 : Int32) < u1 then
      own_ns_186 u1 
    else
      (1 : Int32)
def own_ns_161 (u1 : Int32)  : Int32 :=
  if u1 < (12289 : Int32) then
    own_ns_174 u1 
  else
    if (55295 : Int32) < u1 then
      own_ns_174 u1 
    else
      (1 : Int32)
def own_ns_147 (u1 : Int32)  : Int32 :=
  if u1 < (11264 : Int32) then
    own_ns_161 u1 
  else
    if (12271 : Int32) < u1 then
      own_ns_161 u1 
    else
      (1 : Int32)
def own_ns_133 (u1 : Int32)  : Int32 :=
  if u1 < (8304 : Int32) then
    own_ns_147 u1 
  else
    if (8591 : Int32) < u1 then
      own_ns_147 u1 
    else
      (1 : Int32)
def own_ns_119 (u1 : Int32)  : Int32 :=
  if u1 < (8204 : Int32) then
    own_ns_133 u1 
  else
    if (8205 : Int32) < u1 then
      own_ns_133 u1 
    else
      (1 : Int32)
def own_ns_105 (u1 : Int32)  : Int32 :=
  if u1 < (895 : Int32) then
    own_ns_119 u1 
  else
    if (8191 : Int32) < u1 then
      own_ns_119 u1 
    else
      (1 : Int32)
def own_ns_91 (u1 : Int32)  : Int32 :=
  if u1 < (880 : Int32) then
    own_ns_105 u1 
  else
    if (893 : Int32) < u1 then
      own_ns_105 u1 
    else
      (1 : Int32)
def own_ns_77 (u1 : Int32)  : Int32 :=
  if u1 < (248 : Int32) then
    own_ns_91 u1 
  else
    if (767 : Int32) < u1 then
      own_ns_91 u1 
    else
      (1 : Int32)
def own_ns_63 (u1 : Int32)  : Int32 :=
  if u1 < (216 : Int32) then
    own_ns_77 u1 
  else
    if (246 : Int32) < u1 then
      own_ns_77 u1 
    else
      (1 : Int32)
def own_ns_31 (u1 : Int32)  : Int32 :=
  if u1 = (95 : Int32) then
    (1 : Int32)
  else
    if u1 = (58 : Int32) then
      (1 : Int32)
    else
      (0 : Int32)
def own_ns_19 (u1 : Int32)  : Int32 :=
  if u1 < (65 : Int32) then
    own_ns_31 u1 
  else
    if (90 : Int32) < u1 then
      own_ns_31 u1 
    else
      (1 : Int32)
def own_ns_0 (u1 : Int32)  : Int32 :=
  if u1 < (128 : Int32) then
    if u1 < (97 : Int32) then
      own_ns_19 u1 
    else
      if (122 : Int32) < u1 then
        own_ns_19 u1 
      else
        (1 : Int32)
  else
    if u1 < (192 : Int32) then
      own_ns_63 u1 
    else
      if (214 : Int32) < u1 then
        own_ns_63 u1 
      else
        (1 : Int32)
theorem d3_0 : decode prog_134_method_7_code 0 = .ok (.iload_n 0, 1) := by decide +kernel
theorem d3_1 : decode prog_134_method_7_code 1 = .ok (.sipush 128, 3) := by decide +kernel
theorem d3_4 : decode prog_134_method_7_code 4 = .ok (.if_icmp .ge 45, 3) := by decide +kernel
theorem d3_7 : decode prog_134_method_7_code 7 = .ok (.iload_n 0, 1) := by decide +kernel
theorem d3_8 : decode prog_134_method_7_code 8 = .ok (.bipush 97, 2) := by decide +kernel
theorem d3_10 : decode prog_134_method_7_code 10 = .ok (.if_icmp .lt 9, 3) := by decide +kernel
theorem d3_13 : decode prog_134_method_7_code 13 = .ok (.iload_n 0, 1) := by decide +kernel
theorem d3_14 : decode prog_134_method_7_code 14 = .ok (.bipush 122, 2) := by decide +kernel
theorem d3_16 : decode prog_134_method_7_code 16 = .ok (.if_icmp .le 27, 3) := by decide +kernel
theorem d3_19 : decode prog_134_method_7_code 19 = .ok (.iload_n 0, 1) := by decide +kernel
theorem d3_20 : decode prog_134_method_7_code 20 = .ok (.bipush 65, 2) := by decide +kernel
theorem d3_22 : decode prog_134_method_7_code 22 = .ok (.if_icmp .lt 9, 3) := by decide +kernel
theorem d3_25 : decode prog_134_method_7_code 25 = .ok (.iload_n 0, 1) := by decide +kernel
theorem d3_26 : decode prog_134_method_7_code 26 = .ok (.bipush 90, 2) := by decide +kernel
theorem d3_28 : decode prog_134_method_7_code 28 = .ok (.if_icmp .le 15, 3) := by decide +kernel
theorem d3_31 : decode prog_134_method_7_code 31 = .ok (.iload_n 0, 1) := by decide +kernel
theorem d3_32 : decode prog_134_method_7_code 32 = .ok (.bipush 95, 2) := by decide +kernel
theorem d3_34 : decode prog_134_method_7_code 34 = .ok (.if_icmp .eq 9, 3) := by decide +kernel
theorem d3_37 : decode prog_134_method_7_code 37 = .ok (.iload_n 0, 1) := by decide +kernel
theorem d3_38 : decode prog_134_method_7_code 38 = .ok (.bipush 58, 2) := by decide +kernel
theorem d3_40 : decode prog_134_method_7_code 40 = .ok (.if_icmp .ne 7, 3) := by decide +kernel
theorem d3_43 : decode prog_134_method_7_code 43 = .ok (.iconst 1, 1) := by decide +kernel
theorem d3_44 : decode prog_134_method_7_code 44 = .ok (.goto 4, 3) := by decide +kernel
theorem d3_47 : decode prog_134_method_7_code 47 = .ok (.iconst 0, 1) := by decide +kernel
theorem d3_48 : decode prog_134_method_7_code 48 = .ok (.ireturn, 1) := by decide +kernel
theorem d3_49 : decode prog_134_method_7_code 49 = .ok (.iload_n 0, 1) := by decide +kernel
theorem d3_50 : decode prog_134_method_7_code 50 = .ok (.sipush 192, 3) := by decide +kernel
theorem d3_53 : decode prog_134_method_7_code 53 = .ok (.if_icmp .lt 10, 3) := by decide +kernel
theorem d3_56 : decode prog_134_method_7_code 56 = .ok (.iload_n 0, 1) := by decide +kernel
theorem d3_57 : decode prog_134_method_7_code 57 = .ok (.sipush 214, 3) := by decide +kernel
theorem d3_60 : decode prog_134_method_7_code 60 = .ok (.if_icmp .le 150, 3) := by decide +kernel
theorem d3_63 : decode prog_134_method_7_code 63 = .ok (.iload_n 0, 1) := by decide +kernel
theorem d3_64 : decode prog_134_method_7_code 64 = .ok (.sipush 216, 3) := by decide +kernel
theorem d3_67 : decode prog_134_method_7_code 67 = .ok (.if_icmp .lt 10, 3) := by decide +kernel
theorem d3_70 : decode prog_134_method_7_code 70 = .ok (.iload_n 0, 1) := by decide +kernel
theorem d3_71 : decode prog_134_method_7_code 71 = .ok (.sipush 246, 3) := by decide +kernel
theorem d3_74 : decode prog_134_method_7_code 74 = .ok (.if_icmp .le 136, 3) := by decide +kernel
theorem d3_77 : decode prog_134_method_7_code 77 = .ok (.iload_n 0, 1) := by decide +kernel
theorem d3_78 : decode prog_134_method_7_code 78 = .ok (.sipush 248, 3) := by decide +kernel
theorem d3_81 : decode prog_134_method_7_code 81 = .ok (.if_icmp .lt 10, 3) := by decide +kernel
theorem d3_84 : decode prog_134_method_7_code 84 = .ok (.iload_n 0, 1) := by decide +kernel
theorem d3_85 : decode prog_134_method_7_code 85 = .ok (.sipush 767, 3) := by decide +kernel
theorem d3_88 : decode prog_134_method_7_code 88 = .ok (.if_icmp .le 122, 3) := by decide +kernel
theorem d3_91 : decode prog_134_method_7_code 91 = .ok (.iload_n 0, 1) := by decide +kernel
theorem d3_92 : decode prog_134_method_7_code 92 = .ok (.sipush 880, 3) := by decide +kernel
theorem d3_95 : decode prog_134_method_7_code 95 = .ok (.if_icmp .lt 10, 3) := by decide +kernel
theorem d3_98 : decode prog_134_method_7_code 98 = .ok (.iload_n 0, 1) := by decide +kernel
theorem d3_99 : decode prog_134_method_7_code 99 = .ok (.sipush 893, 3) := by decide +kernel
theorem d3_102 : decode prog_134_method_7_code 102 = .ok (.if_icmp .le 108, 3) := by decide +kernel
theorem d3_105 : decode prog_134_method_7_code 105 = .ok (.iload_n 0, 1) := by decide +kernel
theorem d3_106 : decode prog_134_method_7_code 106 = .ok (.sipush 895, 3) := by decide +kernel
theorem d3_109 : decode prog_134_method_7_code 109 = .ok (.if_icmp .lt 10, 3) := by decide +kernel
theorem d3_112 : decode prog_134_method_7_code 112 = .ok (.iload_n 0, 1) := by decide +kernel
theorem d3_113 : decode prog_134_method_7_code 113 = .ok (.sipush 8191, 3) := by decide +kernel
theorem d3_116 : decode prog_134_method_7_code 116 = .ok (.if_icmp .le 94, 3) := by decide +kernel
theorem d3_119 : decode prog_134_method_7_code 119 = .ok (.iload_n 0, 1) := by decide +kernel
theorem d3_120 : decode prog_134_method_7_code 120 = .ok (.sipush 8204, 3) := by decide +kernel
theorem d3_123 : decode prog_134_method_7_code 123 = .ok (.if_icmp .lt 10, 3) := by decide +kernel
theorem d3_126 : decode prog_134_method_7_code 126 = .ok (.iload_n 0, 1) := by decide +kernel
theorem d3_127 : decode prog_134_method_7_code 127 = .ok (.sipush 8205, 3) := by decide +kernel
theorem d3_130 : decode prog_134_method_7_code 130 = .ok (.if_icmp .le 80, 3) := by decide +kernel
theorem d3_133 : decode prog_134_method_7_code 133 = .ok (.iload_n 0, 1) := by decide +kernel
theorem d3_134 : decode prog_134_method_7_code 134 = .ok (.sipush 8304, 3) := by decide +kernel
theorem d3_137 : decode prog_134_method_7_code 137 = .ok (.if_icmp .lt 10, 3) := by decide +kernel
theorem d3_140 : decode prog_134_method_7_code 140 = .ok (.iload_n 0, 1) := by decide +kernel
theorem d3_141 : decode prog_134_method_7_code 141 = .ok (.sipush 8591, 3) := by decide +kernel
theorem d3_144 : decode prog_134_method_7_code 144 = .ok (.if_icmp .le 66, 3) := by decide +kernel
theorem d3_147 : decode prog_134_method_7_code 147 = .ok (.iload_n 0, 1) := by decide +kernel
theorem d3_148 : decode prog_134_method_7_code 148 = .ok (.sipush 11264, 3) := by decide +kernel
theorem d3_151 : decode prog_134_method_7_code 151 = .ok (.if_icmp .lt 10, 3) := by decide +kernel
theorem d3_154 : decode prog_134_method_7_code 154 = .ok (.iload_n 0, 1) := by decide +kernel
theorem d3_155 : decode prog_134_method_7_code 155 = .ok (.sipush 12271, 3) := by decide +kernel
theorem d3_158 : decode prog_134_method_7_code 158 = .ok (.if_icmp .le 52, 3) := by decide +kernel
theorem d3_161 : decode prog_134_method_7_code 161 = .ok (.iload_n 0, 1) := by decide +kernel
theorem d3_162 : decode prog_134_method_7_code 162 = .ok (.sipush 12289, 3) := by decide +kernel
theorem d3_165 : decode prog_134_method_7_code 165 = .ok (.if_icmp .lt 9, 3) := by decide +kernel
theorem d3_168 : decode prog_134_method_7_code 168 = .ok (.iload_n 0, 1) := by decide +kernel
theorem d3_169 : decode prog_134_method_7_code 169 = .ok (.ldc 16, 2) := by decide +kernel
theorem d3_171 : decode prog_134_method_7_code 171 = .ok (.if_icmp .le 39, 3) := by decide +kernel
theorem d3_174 : decode prog_134_method_7_code 174 = .ok (.iload_n 0, 1) := by decide +kernel
theorem d3_175 : decode prog_134_method_7_code 175 = .ok (.ldc 21, 2) := by decide +kernel
theorem d3_177 : decode prog_134_method_7_code 177 = .ok (.if_icmp .lt 9, 3) := by decide +kernel
theorem d3_180 : decode prog_134_method_7_code 180 = .ok (.iload_n 0, 1) := by decide +kernel
theorem d3_181 : decode prog_134_method_7_code 181 = .ok (.ldc 22, 2) := by decide +kernel
theorem d3_183 : decode prog_134_method_7_code 183 = .ok (.if_icmp .le 27, 3) := by decide +kernel
theorem d3_186 : decode prog_134_method_7_code 186 = .ok (.iload_n 0, 1) := by decide +kernel
theorem d3_187 : decode prog_134_method_7_code 187 = .ok (.ldc 23, 2) := by decide +kernel
theorem d3_189 : decode prog_134_method_7_code 189 = .ok (.if_icmp .lt 9, 3) := by decide +kernel
theorem d3_192 : decode prog_134_method_7_code 192 = .ok (.iload_n 0, 1) := by decide +kernel
theorem d3_193 : decode prog_134_method_7_code 193 = .ok (.ldc 18, 2) := by decide +kernel
theorem d3_195 : decode prog_134_method_7_code 195 = .ok (.if_icmp .le 15, 3) := by decide +kernel
theorem d3_198 : decode prog_134_method_7_code 198 = .ok (.iload_n 0, 1) := by decide +kernel
theorem d3_199 : decode prog_134_method_7_code 199 = .ok (.ldc 19, 2) := by decide +kernel
theorem d3_201 : decode prog_134_method_7_code 201 = .ok (.if_icmp .lt 13, 3) := by decide +kernel
theorem d3_204 : decode prog_134_method_7_code 204 = .ok (.iload_n 0, 1) := by decide +kernel
theorem d3_205 : decode prog_134_method_7_code 205 = .ok (.ldc 24, 2) := by decide +kernel
theorem d3_207 : decode prog_134_method_7_code 207 = .ok (.if_icmp .gt 7, 3) := by decide +kernel
theorem d3_210 : decode prog_134_method_7_code 210 = .ok (.iconst 1, 1) := by decide +kernel
theorem d3_211 : decode prog_134_method_7_code 211 = .ok (.goto 4, 3) := by decide +kernel
theorem d3_214 : decode prog_134_method_7_code 214 = .ok (.iconst 0, 1) := by decide +kernel
theorem d3_215 : decode prog_134_method_7_code 215 = .ok (.ireturn, 1) := by decide +kernel
theorem pn_3 : plainName "com/example/kdata/kdata/XmlChars" = true := by first | (simp [plainName, overriddenIn]; done) | decide +kernel
theorem ef_3 (m : MethodId) (x0 : Int32) : entryFrame m #[(.int x0)] 1 = mkF m 0 #[.val (.int x0)] [] := by first | (simp [entryFrame, mkF, argsToLocals, Value.category]; done) | rfl
def Q3 (u1 : Int32) (h0 : Heap) (n0 : Nat) (v : Option Value) (h : Heap) (L : List Loc) : Prop := v = some (.int (own_ns_0 u1)) ∧ Fr n0 L ∧ h = h0
set_option maxRecDepth 65536 in
set_option maxHeartbeats 40000000 in
theorem rm3 (l : Launch) (Z : State) (a0 : Array Value) (hw : ∀ d ∈ tables_1, d.before a0 Z = true) (ws : List Jvm.Cond) (u1 : Int32) (h0 : Heap) (n0 : Nat) (Z0 : n0 ≤ h0.size)   :
    MetFree l (⟨"com/example/kdata/kdata/XmlChars", "isNameStartChar", "(I)Z"⟩ : MethodName) (head1 (Jvm.Cond.code (⟨"com/example/kdata/kdata/XmlChars", "isNameStartChar", "(I)Z"⟩ : MethodName) prog_134_method_7_code 1 (some .boolean) :: ws) ({ frames := 0, cells := 0, slots := 0, locals := 0 } : Room)) (fun a U => a = #[(.int u1)] ∧ Z.Warmed39 U.vm ∧ U.heap = h0) (fun _ _ _ _ _ => True) (fun _ U o U' => ∃ v L, o = .returned v ∧ Q3 u1 h0 n0 v U'.heap L ∧ FrameEnd U o U' L ({ frames := 0, cells := 0, slots := 0, locals := 0 } : Room).cells ({ frames := 0, cells := 0, slots := 0, locals := 0 } : Room).slots) := by
  refine MetFree.of_bodySF (plainFor_of_name pn_3) hisR ?_
  intro p e s m args below meth c s₁ Bd hml0 hP hK
  obtain ⟨rfl, hZ, hh⟩ := hP
  have hx := Bd.exec
  have hby := Bd.bytes
  have hml : c.maxLocals = 1 := hml0
  have hown : s.vm.findClass "com/example/kdata/kdata/XmlChars" = some m.cls := findClass_of_methodNamed Bd.named
  have hnm := (name_of_methodNamed Bd.named Bd.method).1
  have X0 : Stand p l e ({ frames := 0, cells := 0, slots := 0, locals := 0 } : Room) s m #[(.int u1)] below meth c s₁ [] 0 0 := Stand.of_body Bd
  have e0 : s₁.heap = h0 := by rw [← hh, Bd.state]; rfl
  have N0 := Fr.nil n0
  show own_Go p e below s (Q3 u1 h0 n0) ({ frames := 0, cells := 0, slots := 0, locals := 0 } : Room).cells ({ frames := 0, cells := 0, slots := 0, locals := 0 } : Room).slots (s₁.setTop (entryFrame m #[(.int u1)] 1))
  refine own_go (b := s₁.setTop (mkF m 0 #[.val (.int u1)] [])) (fun t k => castTop (ef_3 m u1) k) ?_
  have J198 : ∀ (T : State) (lc : List Loc), Stand p l e ({ frames := 0, cells := 0, slots := 0, locals := 0 } : Room) s m #[(.int u1)] below meth c T lc 0 0 → Fr n0 lc → T.heap = h0 → own_ns_0 u1 = own_ns_198 u1  → own_Go p e below s (Q3 u1 h0 n0) ({ frames := 0, cells := 0, slots := 0, locals := 0 } : Room).cells ({ frames := 0, cells := 0, slots := 0, locals := 0 } : Room).slots (T.setTop (mkF m 198 #[.val (.int u1)] [])) := by
    intro T lc X N eT    hv
    refine own_go (b := T.setTop (mkF m 201 #[.val (.int u1)] [(.int (65536 : Int32)), (.int u1)])) (fun t k => ?_) ?_
    · show Steps p.tables e below (T.setTop (mkF m 198 #[.val (.int u1)] [])) _
      refine XS.iloadN X.here hx rfl (hb hby d3_198) rfl ?_
      show Steps p.tables e below (T.setTop (mkF m 199 #[.val (.int u1)] [(.int u1)])) _
      refine X.ldcI hx hown (mvT hZ (hw _ (List.mem_of_getElem? (i := 24) rfl))) rfl (hb hby d3_199) ?_
      show Steps p.tables e below (T.setTop (mkF m 201 #[.val (.int u1)] [(.int (65536 : Int32)), (.int u1)])) _
      exact k
    by_cases hc201 : u1 < (65536 : Int32)
    · refine own_end X Bd.notSynchronized (v := some (.int (0 : Int32))) (fun h => by rw [Bd.returns] at h; cases h) (fun fs hr => ?_) eT ?_ (by decide) (by decide)
      · show Steps p.tables e below (T.setTop (mkF m 201 #[.val (.int u1)] [(.int (65536 : Int32)), (.int u1)])) _
        refine XS.icmpYes X.here hx rfl (pc0 := 201) (pc' := 214) rfl (hb hby d3_201) rfl (tlt hc201).1 (by decide) (by decide) ?_
        show Steps p.tables e below (T.setTop (mkF m 214 #[.val (.int u1)] [])) _
        refine XS.iconst X.here hx rfl (hb hby d3_214) ?_
        show Steps p.tables e below (T.setTop (mkF m 215 #[.val (.int u1)] [(.int (0 : Int32))])) _
        exact retN X hx (t := .boolean) Bd.returns (by simp) (hb hby d3_215) hr
      · exact ⟨by rw [hv, own_ns_198, if_pos hc201], N, rfl⟩
    · refine own_go (b := T.setTop (mkF m 207 #[.val (.int u1)] [(.int (983039 : Int32)), (.int u1)])) (fun t k => ?_) ?_
      · show Steps p.tables e below (T.setTop (mkF m 201 #[.val (.int u1)] [(.int (65536 : Int32)), (.int u1)])) _
        refine XS.icmpNo X.here hx rfl (hb hby d3_201) rfl (flt hc201).1 ?_
        show Steps p.tables e below (T.setTop (mkF m 204 #[.val (.int u1)] [])) _
        refine XS.iloadN X.here hx rfl (hb hby d3_204) rfl ?_
        show Steps p.tables e below (T.setTop (mkF m 205 #[.val (.int u1)] [(.int u1)])) _
        refine X.ldcI hx hown (mvT hZ (hw _ (List.mem_of_getElem? (i := 34) rfl))) rfl (hb hby d3_205) ?_
        show Steps p.tables e below (T.setTop (mkF m 207 #[.val (.int u1)] [(.int (983039 : Int32)), (.int u1)])) _
        exact k
      by_cases hc207 : (983039 : Int32) < u1
      · refine own_end X Bd.notSynchronized (v := some (.int (0 : Int32))) (fun h => by rw [Bd.returns] at h; cases h) (fun fs hr => ?_) eT ?_ (by decide) (by decide)
        · show Steps p.tables e below (T.setTop (mkF m 207 #[.val (.int u1)] [(.int (983039 : Int32)), (.int u1)])) _
          refine XS.icmpYes X.here hx rfl (pc0 := 207) (pc' := 214) rfl (hb hby d3_207) rfl (tlt hc207).2.2.1 (by decide) (by decide) ?_
          show Steps p.tables e below (T.setTop (mkF m 214 #[.val (.int u1)] [])) _
          refine XS.iconst X.here hx rfl (hb hby d3_214) ?_
          show Steps p.tables e below (T.setTop (mkF m 215 #[.val (.int u1)] [(.int (0 : Int32))])) _
          exact retN X hx (t := .boolean) Bd.returns (by simp) (hb hby d3_215) hr
        · exact ⟨by rw [hv, own_ns_198, if_neg hc201, if_pos hc207], N, rfl⟩
      · refine own_end X Bd.notSynchronized (v := some (.int (1 : Int32))) (fun h => by rw [Bd.returns] at h; cases h) (fun fs hr => ?_) eT ?_ (by decide) (by decide)
        · show Steps p.tables e below (T.setTop (mkF m 207 #[.val (.int u1)] [(.int (983039 : Int32)), (.int u1)])) _
          refine XS.icmpNo X.here hx rfl (hb hby d3_207) rfl (flt hc207).2.2.1 ?_
          show Steps p.tables e below (T.setTop (mkF m 210 #[.val (.int u1)] [])) _
          refine XS.iconst X.here hx rfl (hb hby d3_210) ?_
          show Steps p.tables e below (T.setTop (mkF m 211 #[.val (.int u1)] [(.int (1 : Int32))])) _
          refine XS.goto X.here hx rfl (pc0 := 211) (pc' := 215) rfl (hb hby d3_211) (by decide) (by decide) ?_
          show Steps p.tables e below (T.setTop (mkF m 215 #[.val (.int u1)] [(.int (1 : Int32))])) _
          exact retN X hx (t := .boolean) Bd.returns (by simp) (hb hby d3_215) hr
        · exact ⟨by rw [hv, own_ns_198, if_neg hc201, if_neg hc207], N, rfl⟩
  have J186 : ∀ (T : State) (lc : List Loc), Stand p l e ({ frames := 0, cells := 0, slots := 0, locals := 0 } : Room) s m #[(.int u1)] below meth c T lc 0 0 → Fr n0 lc → T.heap = h0 → own_ns_0 u1 = own_ns_186 u1  → own_Go p e below s (Q3 u1 h0 n0) ({ frames := 0, cells := 0, slots := 0, locals := 0 } : Room).cells ({ frames := 0, cells := 0, slots := 0, locals := 0 } : Room).slots (T.setTop (mkF m 186 #[.val (.int u1)] [])) := by
    intro T lc X N eT    hv
    refine own_go (b := T.setTop (mkF m 189 #[.val (.int u1)] [(.int (65008 : Int32)), (.int u1)])) (fun t k => ?_) ?_
    · show Steps p.tables e below (T.setTop (mkF m 186 #[.val (.int u1)] [])) _
      refine XS.iloadN X.here hx rfl (hb hby d3_186) rfl ?_
      show Steps p.tables e below (T.setTop (mkF m 187 #[.val (.int u1)] [(.int u1)])) _
      refine X.ldcI hx hown (mvT hZ (hw _ (List.mem_of_getElem? (i := 23) rfl))) rfl (hb hby d3_187) ?_
      show Steps p.tables e below (T.setTop (mkF m 189 #[.val (.int u1)] [(.int (65008 : Int32)), (.int u1)])) _
      exact k
    by_cases hc189 : u1 < (65008 : Int32)
    · refine own_go (b := T.setTop (mkF m 198 #[.val (.int u1)] [])) (fun t k => ?_) ?_
      · show Steps p.tables e below (T.setTop (mkF m 189 #[.val (.int u1)] [(.int (65008 : Int32)), (.int u1)])) _
        refine XS.icmpYes X.here hx rfl (pc0 := 189) (pc' := 198) rfl (hb hby d3_189) rfl (tlt hc189).1 (by decide) (by decide) ?_
        show Steps p.tables e below (T.setTop (mkF m 198 #[.val (.int u1)] [])) _
        exact k
      exact J198 T _ X N eT    (by rw [hv, own_ns_186, if_pos hc189])
    · refine own_go (b := T.setTop (mkF m 195 #[.val (.int u1)] [(.int (65533 : Int32)), (.int u1)])) (fun t k => ?_) ?_
      · show Steps p.tables e below (T.setTop (mkF m 189 #[.val (.int u1)] [(.int (65008 : Int32)), (.int u1)])) _
        refine XS.icmpNo X.here hx rfl (hb hby d3_189) rfl (flt hc189).1 ?_
        show Steps p.tables e below (T.setTop (mkF m 192 #[.val (.int u1)] [])) _
        refine XS.iloadN X.here hx rfl (hb hby d3_192) rfl ?_
        show Steps p.tables e below (T.setTop (mkF m 193 #[.val (.int u1)] [(.int u1)])) _
        refine X.ldcI hx hown (mvT hZ (hw _ (List.mem_of_getElem? (i := 33) rfl))) rfl (hb hby d3_193) ?_
        show Steps p.tables e below (T.setTop (mkF m 195 #[.val (.int u1)] [(.int (65533 : Int32)), (.int u1)])) _
        exact k
      by_cases hc195 : (65533 : Int32) < u1
      · refine own_go (b := T.setTop (mkF m 198 #[.val (.int u1)] [])) (fun t k => ?_) ?_
        · show Steps p.tables e below (T.setTop (mkF m 195 #[.val (.int u1)] [(.int (65533 : Int32)), (.int u1)])) _
          refine XS.icmpNo X.here hx rfl (hb hby d3_195) rfl (tlt hc195).2.2.2 ?_
          show Steps p.tables e below (T.setTop (mkF m 198 #[.val (.int u1)] [])) _
          exact k
        exact J198 T _ X N eT    (by rw [hv, own_ns_186, if_neg hc189, if_pos hc195])
      · refine own_end X Bd.notSynchronized (v := some (.int (1 : Int32))) (fun h => by rw [Bd.returns] at h; cases h) (fun fs hr => ?_) eT ?_ (by decide) (by decide)
        · show Steps p.tables e below (T.setTop (mkF m 195 #[.val (.int u1)] [(.int (65533 : Int32)), (.int u1)])) _
          refine XS.icmpYes X.here hx rfl (pc0 := 195) (pc' := 210) rfl (hb hby d3_195) rfl (flt hc195).2.2.2 (by decide) (by decide) ?_
          show Steps p.tables e below (T.setTop (mkF m 210 #[.val (.int u1)] [])) _
          refine XS.iconst X.here hx rfl (hb hby d3_210) ?_
          show Steps p.tables e below (T.setTop (mkF m 211 #[.val (.int u1)] [(.int (1 : Int32))])) _
          refine XS.goto X.here hx rfl (pc0 := 211) (pc' := 215) rfl (hb hby d3_211) (by decide) (by decide) ?_
          show Steps p.tables e below (T.setTop (mkF m 215 #[.val (.int u1)] [(.int (1 : Int32))])) _
          exact retN X hx (t := .boolean) Bd.returns (by simp) (hb hby d3_215) hr
        · exact ⟨by rw [hv, own_ns_186, if_neg hc189, if_neg hc195], N, rfl⟩
  have J174 : ∀ (T : State) (lc : List Loc), Stand p l e ({ frames := 0, cells := 0, slots := 0, locals := 0 } : Room) s m #[(.int u1)] below meth c T lc 0 0 → Fr n0 lc → T.heap = h0 → own_ns_0 u1 = own_ns_174 u1  → own_Go p e below s (Q3 u1 h0 n0) ({ frames := 0, cells := 0, slots := 0, locals := 0 } : Room).cells ({ frames := 0, cells := 0, slots := 0, locals := 0 } : Room).slots (T.setTop (mkF m 174 #[.val (.int u1)] [])) := by
    intro T lc X N eT    hv
    refine own_go (b := T.setTop (mkF m 177 #[.val (.int u1)] [(.int (63744 : Int32)), (.int u1)])) (fun t k => ?_) ?_
    · show Steps p.tables e below (T.setTop (mkF m 174 #[.val (.int u1)] [])) _
      refine XS.iloadN X.here hx rfl (hb hby d3_174) rfl ?_
      show Steps p.tables e below (T.setTop (mkF m 175 #[.val (.int u1)] [(.int u1)])) _
      refine X.ldcI hx hown (mvT hZ (hw _ (List.mem_of_getElem? (i := 22) rfl))) rfl (hb hby d3_175) ?_
      show Steps p.tables e below (T.setTop (mkF m 177 #[.val (.int u1)] [(.int (63744 : Int32)), (.int u1)])) _
      exact k
    by_cases hc177 : u1 < (63744 : Int32)
    · refine own_go (b := T.setTop (mkF m 186 #[.val (.int u1)] [])) (fun t k => ?_) ?_
      · show Steps p.tables e below (T.setTop (mkF m 177 #[.val (.int u1)] [(.int (63744 : Int32)), (.int u1)])) _
        refine XS.icmpYes X.here hx rfl (pc0 := 177) (pc' := 186) rfl (hb hby d3_177) rfl (tlt hc177).1 (by decide) (by decide) ?_
        show Steps p.tables e below (T.setTop (mkF m 186 #[.val (.int u1)] [])) _
        exact k
      exact J186 T _ X N eT    (by rw [hv, own_ns_174, if_pos hc177])
    · refine own_go (b := T.setTop (mkF m 183 #[.val (.int u1)] [(.int (64975 : Int32)), (.int u1)])) (fun t k => ?_) ?_
      · show Steps p.tables e below (T.setTop (mkF m 177 #[.val (.int u1)] [(.int (63744 : Int32)), (.int u1)])) _
        refine XS.icmpNo X.here hx rfl (hb hby d3_177) rfl (flt hc177).1 ?_
        show Steps p.tables e below (T.setTop (mkF m 180 #[.val (.int u1)] [])) _
        refine XS.iloadN X.here hx rfl (hb hby d3_180) rfl ?_
        show Steps p.tables e below (T.setTop (mkF m 181 #[.val (.int u1)] [(.int u1)])) _
        refine X.ldcI hx hown (mvT hZ (hw _ (List.mem_of_getElem? (i := 32) rfl))) rfl (hb hby d3_181) ?_
        show Steps p.tables e below (T.setTop (mkF m 183 #[.val (.int u1)] [(.int (64975 : Int32)), (.int u1)])) _
        exact k
      by_cases hc183 : (64975 : Int32) < u1
      · refine own_go (b := T.setTop (mkF m 186 #[.val (.int u1)] [])) (fun t k => ?_) ?_
        · show Steps p.tables e below (T.setTop (mkF m 183 #[.val (.int u1)] [(.int (64975 : Int32)), (.int u1)])) _
          refine XS.icmpNo X.here hx rfl (hb hby d3_183) rfl (tlt hc183).2.2.2 ?_
          show Steps p.tables e below (T.setTop (mkF m 186 #[.val (.int u1)] [])) _
          exact k
        exact J186 T _ X N eT    (by rw [hv, own_ns_174, if_neg hc177, if_pos hc183])
      · refine own_end X Bd.notSynchronized (v := some (.int (1 : Int32))) (fun h => by rw [Bd.returns] at h; cases h) (fun fs hr => ?_) eT ?_ (by decide) (by decide)
        · show Steps p.tables e below (T.setTop (mkF m 183 #[.val (.int u1)] [(.int (64975 : Int32)), (.int u1)])) _
          refine XS.icmpYes X.here hx rfl (pc0 := 183) (pc' := 210) rfl (hb hby d3_183) rfl (flt hc183).2.2.2 (by decide) (by decide) ?_
          show Steps p.tables e below (T.setTop (mkF m 210 #[.val (.int u1)] [])) _
          refine XS.iconst X.here hx rfl (hb hby d3_210) ?_
          show Steps p.tables e below (T.setTop (mkF m 211 #[.val (.int u1)] [(.int (1 : Int32))])) _
          refine XS.goto X.here hx rfl (pc0 := 211) (pc' := 215) rfl (hb hby d3_211) (by decide) (by decide) ?_
          show Steps p.tables e below (T.setTop (mkF m 215 #[.val (.int u1)] [(.int (1 : Int32))])) _
          exact retN X hx (t := .boolean) Bd.returns (by simp) (hb hby d3_215) hr
        · exact ⟨by rw [hv, own_ns_174, if_neg hc177, if_neg hc183], N, rfl⟩
  have J161 : ∀ (T : State) (lc : List Loc), Stand p l e ({ frames := 0, cells := 0, slots := 0, locals := 0 } : Room) s m #[(.int u1)] below meth c T lc 0 0 → Fr n0 lc → T.heap = h0 → own_ns_0 u1 = own_ns_161 u1  → own_Go p e below s (Q3 u1 h0 n0) ({ frames := 0, cells := 0, slots := 0, locals := 0 } : Room).cells ({ frames := 0, cells := 0, slots := 0, locals := 0 } : Room).slots (T.setTop (mkF m 161 #[.val (.int u1)] [])) := by
    intro T lc X N eT    hv
    refine own_go (b := T.setTop (mkF m 165 #[.val (.int u1)] [(.int (12289 : Int32)), (.int u1)])) (fun t k => ?_) ?_
    · show Steps p.tables e below (T.setTop (mkF m 161 #[.val (.int u1)] [])) _
      refine XS.iloadN X.here hx rfl (hb hby d3_161) rfl ?_
      show Steps p.tables e below (T.setTop (mkF m 162 #[.val (.int u1)] [(.int u1)])) _
      refine XS.sipush X.here hx rfl (hb hby d3_162) ?_
      show Steps p.tables e below (T.setTop (mkF m 165 #[.val (.int u1)] [(.int (12289 : Int32)), (.int u1)])) _
      exact k
    by_cases hc165 : u1 < (12289 : Int32)
    · refine own_go (b := T.setTop (mkF m 174 #[.val (.int u1)] [])) (fun t k => ?_) ?_
      · show Steps p.tables e below (T.setTop (mkF m 165 #[.val (.int u1)] [(.int (12289 : Int32)), (.int u1)])) _
        refine XS.icmpYes X.here hx rfl (pc0 := 165) (pc' := 174) rfl (hb hby d3_165) rfl (tlt hc165).1 (by decide) (by decide) ?_
        show Steps p.tables e below (T.setTop (mkF m 174 #[.val (.int u1)] [])) _
        exact k
      exact J174 T _ X N eT    (by rw [hv, own_ns_161, if_pos hc165])
    · refine own_go (b := T.setTop (mkF m 171 #[.val (.int u1)] [(.int (55295 : Int32)), (.int u1)])) (fun t k => ?_) ?_
      · show Steps p.tables e below (T.setTop (mkF m 165 #[.val (.int u1)] [(.int (12289 : Int32)), (.int u1)])) _
        refine XS.icmpNo X.here hx rfl (hb hby d3_165) rfl (flt hc165).1 ?_
        show Steps p.tables e below (T.setTop (mkF m 168 #[.val (.int u1)] [])) _
        refine XS.iloadN X.here hx rfl (hb hby d3_168) rfl ?_
        show Steps p.tables e below (T.setTop (mkF m 169 #[.val (.int u1)] [(.int u1)])) _
        refine X.ldcI hx hown (mvT hZ (hw _ (List.mem_of_getElem? (i := 31) rfl))) rfl (hb hby d3_169) ?_
        show Steps p.tables e below (T.setTop (mkF m 171 #[.val (.int u1)] [(.int (55295 : Int32)), (.int u1)])) _
        exact k
      by_cases hc171 : (55295 : Int32) < u1
      · refine own_go (b := T.setTop (mkF m 174 #[.val (.int u1)] [])) (fun t k => ?_) ?_
        · show Steps p.tables e below (T.setTop (mkF m 171 #[.val (.int u1)] [(.int (55295 : Int32)), (.int u1)])) _
          refine XS.icmpNo X.here hx rfl (hb hby d3_171) rfl (tlt hc171).2.2.2 ?_
          show Steps p.tables e below (T.setTop (mkF m 174 #[.val (.int u1)] [])) _
          exact k
        exact J174 T _ X N eT    (by rw [hv, own_ns_161, if_neg hc165, if_pos hc171])
      · refine own_end X Bd.notSynchronized (v := some (.int (1 : Int32))) (fun h => by rw [Bd.returns] at h; cases h) (fun fs hr => ?_) eT ?_ (by decide) (by decide)
        · show Steps p.tables e below (T.setTop (mkF m 171 #[.val (.int u1)] [(.int (55295 : Int32)), (.int u1)])) _
          refine XS.icmpYes X.here hx rfl (pc0 := 171) (pc' := 210) rfl (hb hby d3_171) rfl (flt hc171).2.2.2 (by decide) (by decide) ?_
          show Steps p.tables e below (T.setTop (mkF m 210 #[.val (.int u1)] [])) _
          refine XS.iconst X.here hx rfl (hb hby d3_210) ?_
          show Steps p.tables e below (T.setTop (mkF m 211 #[.val (.int u1)] [(.int (1 : Int32))])) _
          refine XS.goto X.here hx rfl (pc0 := 211) (pc' := 215) rfl (hb hby d3_211) (by decide) (by decide) ?_
          show Steps p.tables e below (T.setTop (mkF m 215 #[.val (.int u1)] [(.int (1 : Int32))])) _
          exact retN X hx (t := .boolean) Bd.returns (by simp) (hb hby d3_215) hr
        · exact ⟨by rw [hv, own_ns_161, if_neg hc165, if_neg hc171], N, rfl⟩
  have J147 : ∀ (T : State) (lc : List Loc), Stand p l e ({ frames := 0, cells := 0, slots := 0, locals := 0 } : Room) s m #[(.int u1)] below meth c T lc 0 0 → Fr n0 lc → T.heap = h0 → own_ns_0 u1 = own_ns_147 u1  → own_Go p e below s (Q3 u1 h0 n0) ({ frames := 0, cells := 0, slots := 0, locals := 0 } : Room).cells ({ frames := 0, cells := 0, slots := 0, locals := 0 } : Room).slots (T.setTop (mkF m 147 #[.val (.int u1)] [])) := by
    intro T lc X N eT    hv
    refine own_go (b := T.setTop (mkF m 151 #[.val (.int u1)] [(.int (11264 : Int32)), (.int u1)])) (fun t k => ?_) ?_
    · show Steps p.tables e below (T.setTop (mkF m 147 #[.val (.int u1)] [])) _
      refine XS.iloadN X.here hx rfl (hb hby d3_147) rfl ?_
      show Steps p.tables e below (T.setTop (mkF m 148 #[.val (.int u1)] [(.int u1)])) _
      refine XS.sipush X.here hx rfl (hb hby d3_148) ?_
      show Steps p.tables e below (T.setTop (mkF m 151 #[.val (.int u1)] [(.int (11264 : Int32)), (.int u1)])) _
      exact k
    by_cases hc151 : u1 < (11264 : Int32)
    · refine own_go (b := T.setTop (mkF m 161 #[.val (.int u1)] [])) (fun t k => ?_) ?_
      · show Steps p.tables e below (T.setTop (mkF m 151 #[.val (.int u1)] [(.int (11264 : Int32)), (.int u1)])) _
        refine XS.icmpYes X.here hx rfl (pc0 := 151) (pc' := 161) rfl (hb hby d3_151) rfl (tlt hc151).1 (by decide) (by decide) ?_
        show Steps p.tables e below (T.setTop (mkF m 161 #[.val (.int u1)] [])) _
        exact k
      exact J161 T _ X N eT    (by rw [hv, own_ns_147, if_pos hc151])
    · refine own_go (b := T.setTop (mkF m 158 #[.val (.int u1)] [(.int (12271 : Int32)), (.int u1)])) (fun t k => ?_) ?_
      · show Steps p.tables e below (T.setTop (mkF m 151 #[.val (.int u1)] [(.int (11264 : Int32)), (.int u1)])) _
        refine XS.icmpNo X.here hx rfl (hb hby d3_151) rfl (flt hc151).1 ?_
        show Steps p.tables e below (T.setTop (mkF m 154 #[.val (.int u1)] [])) _
        refine XS.iloadN X.here hx rfl (hb hby d3_154) rfl ?_
        show Steps p.tables e below (T.setTop (mkF m 155 #[.val (.int u1)] [(.int u1)])) _
        refine XS.sipush X.here hx rfl (hb hby d3_155) ?_
        show Steps p.tables e below (T.setTop (mkF m 158 #[.val (.int u1)] [(.int (12271 : Int32)), (.int u1)])) _
        exact k
      by_cases hc158 : (12271 : Int32) < u1
      · refine own_go (b := T.setTop (mkF m 161 #[.val (.int u1)] [])) (fun t k => ?_) ?_
        · show Steps p.tables e below (T.setTop (mkF m 158 #[.val (.int u1)] [(.int (12271 : Int32)), (.int u1)])) _
          refine XS.icmpNo X.here hx rfl (hb hby d3_158) rfl (tlt hc158).2.2.2 ?_
          show Steps p.tables e below (T.setTop (mkF m 161 #[.val (.int u1)] [])) _
          exact k
        exact J161 T _ X N eT    (by rw [hv, own_ns_147, if_neg hc151, if_pos hc158])
      · refine own_end X Bd.notSynchronized (v := some (.int (1 : Int32))) (fun h => by rw [Bd.returns] at h; cases h) (fun fs hr => ?_) eT ?_ (by decide) (by decide)
        · show Steps p.tables e below (T.setTop (mkF m 158 #[.val (.int u1)] [(.int (12271 : Int32)), (.int u1)])) _
          refine XS.icmpYes X.here hx rfl (pc0 := 158) (pc' := 210) rfl (hb hby d3_158) rfl (flt hc158).2.2.2 (by decide) (by decide) ?_
          show Steps p.tables e below (T.setTop (mkF m 210 #[.val (.int u1)] [])) _
          refine XS.iconst X.here hx rfl (hb hby d3_210) ?_
          show Steps p.tables e below (T.setTop (mkF m 211 #[.val (.int u1)] [(.int (1 : Int32))])) _
          refine XS.goto X.here hx rfl (pc0 := 211) (pc' := 215) rfl (hb hby d3_211) (by decide) (by decide) ?_
          show Steps p.tables e below (T.setTop (mkF m 215 #[.val (.int u1)] [(.int (1 : Int32))])) _
          exact retN X hx (t := .boolean) Bd.returns (by simp) (hb hby d3_215) hr
        · exact ⟨by rw [hv, own_ns_147, if_neg hc151, if_neg hc158], N, rfl⟩
  have J133 : ∀ (T : State) (lc : List Loc), Stand p l e ({ frames := 0, cells := 0, slots := 0, locals := 0 } : Room) s m #[(.int u1)] below meth c T lc 0 0 → Fr n0 lc → T.heap = h0 → own_ns_0 u1 = own_ns_133 u1  → own_Go p e below s (Q3 u1 h0 n0) ({ frames := 0, cells := 0, slots := 0, locals := 0 } : Room).cells ({ frames := 0, cells := 0, slots := 0, locals := 0 } : Room).slots (T.setTop (mkF m 133 #[.val (.int u1)] [])) := by
    intro T lc X N eT    hv
    refine own_go (b := T.setTop (mkF m 137 #[.val (.int u1)] [(.int (8304 : Int32)), (.int u1)])) (fun t k => ?_) ?_
    · show Steps p.tables e below (T.setTop (mkF m 133 #[.val (.int u1)] [])) _
      refine XS.iloadN X.here hx rfl (hb hby d3_133) rfl ?_
      show Steps p.tables e below (T.setTop (mkF m 134 #[.val (.int u1)] [(.int u1)])) _
      refine XS.sipush X.here hx rfl (hb hby d3_134) ?_
      show Steps p.tables e below (T.setTop (mkF m 137 #[.val (.int u1)] [(.int (8304 : Int32)), (.int u1)])) _
      exact k
    by_cases hc137 : u1 < (8304 : Int32)
    · refine own_go (b := T.setTop (mkF m 147 #[.val (.int u1)] [])) (fun t k => ?_) ?_
      · show Steps p.tables e below (T.setTop (mkF m 137 #[.val (.int u1)] [(.int (8304 : Int32)), (.int u1)])) _
        refine XS.icmpYes X.here hx rfl (pc0 := 137) (pc' := 147) rfl (hb hby d3_137) rfl (tlt hc137).1 (by decide) (by decide) ?_
        show Steps p.tables e below (T.setTop (mkF m 147 #[.val (.int u1)] [])) _
        exact k
      exact J147 T _ X N eT    (by rw [hv, own_ns_133, if_pos hc137])
    · refine own_go (b := T.setTop (mkF m 144 #[.val (.int u1)] [(.int (8591 : Int32)), (.int u1)])) (fun t k => ?_) ?_
      · show Steps p.tables e below (T.setTop (mkF m 137 #[.val (.int u1)] [(.int (8304 : Int32)), (.int u1)])) _
        refine XS.icmpNo X.here hx rfl (hb hby d3_137) rfl (flt hc137).1 ?_
        show Steps p.tables e below (T.setTop (mkF m 140 #[.val (.int u1)] [])) _
        refine XS.iloadN X.here hx rfl (hb hby d3_140) rfl ?_
        show Steps p.tables e below (T.setTop (mkF m 141 #[.val (.int u1)] [(.int u1)])) _
        refine XS.sipush X.here hx rfl (hb hby d3_141) ?_
        show Steps p.tables e below (T.setTop (mkF m 144 #[.val (.int u1)] [(.int (8591 : Int32)), (.int u1)])) _
        exact k
      by_cases hc144 : (8591 : Int32) < u1
      · refine own_go (b := T.setTop (mkF m 147 #[.val (.int u1)] [])) (fun t k => ?_) ?_
        · show Steps p.tables e below (T.setTop (mkF m 144 #[.val (.int u1)] [(.int (8591 : Int32)), (.int u1)])) _
          refine XS.icmpNo X.here hx rfl (hb hby d3_144) rfl (tlt hc144).2.2.2 ?_
          show Steps p.tables e below (T.setTop (mkF m 147 #[.val (.int u1)] [])) _
          exact k
        exact J147 T _ X N eT    (by rw [hv, own_ns_133, if_neg hc137, if_pos hc144])
      · refine own_end X Bd.notSynchronized (v := some (.int (1 : Int32))) (fun h => by rw [Bd.returns] at h; cases h) (fun fs hr => ?_) eT ?_ (by decide) (by decide)
        · show Steps p.tables e below (T.setTop (mkF m 144 #[.val (.int u1)] [(.int (8591 : Int32)), (.int u1)])) _
          refine XS.icmpYes X.here hx rfl (pc0 := 144) (pc' := 210) rfl (hb hby d3_144) rfl (flt hc144).2.2.2 (by decide) (by decide) ?_
          show Steps p.tables e below (T.setTop (mkF m 210 #[.val (.int u1)] [])) _
          refine XS.iconst X.here hx rfl (hb hby d3_210) ?_
          show Steps p.tables e below (T.setTop (mkF m 211 #[.val (.int u1)] [(.int (1 : Int32))])) _
          refine XS.goto X.here hx rfl (pc0 := 211) (pc' := 215) rfl (hb hby d3_211) (by decide) (by decide) ?_
          show Steps p.tables e below (T.setTop (mkF m 215 #[.val (.int u1)] [(.int (1 : Int32))])) _
          exact retN X hx (t := .boolean) Bd.returns (by simp) (hb hby d3_215) hr
        · exact ⟨by rw [hv, own_ns_133, if_neg hc137, if_neg hc144], N, rfl⟩
  have J119 : ∀ (T : State) (lc : List Loc), Stand p l e ({ frames := 0, cells := 0, slots := 0, locals := 0 } : Room) s m #[(.int u1)] below meth c T lc 0 0 → Fr n0 lc → T.heap = h0 → own_ns_0 u1 = own_ns_119 u1  → own_Go p e below s (Q3 u1 h0 n0) ({ frames := 0, cells := 0, slots := 0, locals := 0 } : Room).cells ({ frames := 0, cells := 0, slots := 0, locals := 0 } : Room).slots (T.setTop (mkF m 119 #[.val (.int u1)] [])) := by
    intro T lc X N eT    hv
    refine own_go (b := T.setTop (mkF m 123 #[.val (.int u1)] [(.int (8204 : Int32)), (.int u1)])) (fun t k => ?_) ?_
    · show Steps p.tables e below (T.setTop (mkF m 119 #[.val (.int u1)] [])) _
      refine XS.iloadN X.here hx rfl (hb hby d3_119) rfl ?_
      show Steps p.tables e below (T.setTop (mkF m 120 #[.val (.int u1)] [(.int u1)])) _
      refine XS.sipush X.here hx rfl (hb hby d3_120) ?_
      show Steps p.tables e below (T.setTop (mkF m 123 #[.val (.int u1)] [(.int (8204 : Int32)), (.int u1)])) _
      exact k
    by_cases hc123 : u1 < (8204 : Int32)
    · refine own_go (b := T.setTop (mkF m 133 #[.val (.int u1)] [])) (fun t k => ?_) ?_
      · show Steps p.tables e below (T.setTop (mkF m 123 #[.val (.int u1)] [(.int (8204 : Int32)), (.int u1)])) _
        refine XS.icmpYes X.here hx rfl (pc0 := 123) (pc' := 133) rfl (hb hby d3_123) rfl (tlt hc123).1 (by decide) (by decide) ?_
        show Steps p.tables e below (T.setTop (mkF m 133 #[.val (.int u1)] [])) _
        exact k
      exact J133 T _ X N eT    (by rw [hv, own_ns_119, if_pos hc123])
    · refine own_go (b := T.setTop (mkF m 130 #[.val (.int u1)] [(.int (8205 : Int32)), (.int u1)])) (fun t k => ?_) ?_
      · show Steps p.tables e below (T.setTop (mkF m 123 #[.val (.int u1)] [(.int (8204 : Int32)), (.int u1)])) _
        refine XS.icmpNo X.here hx rfl (hb hby d3_123) rfl (flt hc123).1 ?_
        show Steps p.tables e below (T.setTop (mkF m 126 #[.val (.int u1)] [])) _
        refine XS.iloadN X.here hx rfl (hb hby d3_126) rfl ?_
        show Steps p.tables e below (T.setTop (mkF m 127 #[.val (.int u1)] [(.int u1)])) _
        refine XS.sipush X.here hx rfl (hb hby d3_127) ?_
        show Steps p.tables e below (T.setTop (mkF m 130 #[.val (.int u1)] [(.int (8205 : Int32)), (.int u1)])) _
        exact k
      by_cases hc130 : (8205 : Int32) < u1
      · refine own_go (b := T.setTop (mkF m 133 #[.val (.int u1)] [])) (fun t k => ?_) ?_
        · show Steps p.tables e below (T.setTop (mkF m 130 #[.val (.int u1)] [(.int (8205 : Int32)), (.int u1)])) _
          refine XS.icmpNo X.here hx rfl (hb hby d3_130) rfl (tlt hc130).2.2.2 ?_
          show Steps p.tables e below (T.setTop (mkF m 133 #[.val (.int u1)] [])) _
          exact k
        exact J133 T _ X N eT    (by rw [hv, own_ns_119, if_neg hc123, if_pos hc130])
      · refine own_end X Bd.notSynchronized (v := some (.int (1 : Int32))) (fun h => by rw [Bd.returns] at h; cases h) (fun fs hr => ?_) eT ?_ (by decide) (by decide)
        · show Steps p.tables e below (T.setTop (mkF m 130 #[.val (.int u1)] [(.int (8205 : Int32)), (.int u1)])) _
          refine XS.icmpYes X.here hx rfl (pc0 := 130) (pc' := 210) rfl (hb hby d3_130) rfl (flt hc130).2.2.2 (by decide) (by decide) ?_
          show Steps p.tables e below (T.setTop (mkF m 210 #[.val (.int u1)] [])) _
          refine XS.iconst X.here hx rfl (hb hby d3_210) ?_
          show Steps p.tables e below (T.setTop (mkF m 211 #[.val (.int u1)] [(.int (1 : Int32))])) _
          refine XS.goto X.here hx rfl (pc0 := 211) (pc' := 215) rfl (hb hby d3_211) (by decide) (by decide) ?_
          show Steps p.tables e below (T.setTop (mkF m 215 #[.val (.int u1)] [(.int (1 : Int32))])) _
          exact retN X hx (t := .boolean) Bd.returns (by simp) (hb hby d3_215) hr
        · exact ⟨by rw [hv, own_ns_119, if_neg hc123, if_neg hc130], N, rfl⟩
  have J105 : ∀ (T : State) (lc : List Loc), Stand p l e ({ frames := 0, cells := 0, slots := 0, locals := 0 } : Room) s m #[(.int u1)] below meth c T lc 0 0 → Fr n0 lc → T.heap = h0 → own_ns_0 u1 = own_ns_105 u1  → own_Go p e below s (Q3 u1 h0 n0) ({ frames := 0, cells := 0, slots := 0, locals := 0 } : Room).cells ({ frames := 0, cells := 0, slots := 0, locals := 0 } : Room).slots (T.setTop (mkF m 105 #[.val (.int u1)] [])) := by
    intro T lc X N eT    hv
    refine own_go (b := T.setTop (mkF m 109 #[.val (.int u1)] [(.int (895 : Int32)), (.int u1)])) (fun t k => ?_) ?_
    · show Steps p.tables e below (T.setTop (mkF m 105 #[.val (.int u1)] [])) _
      refine XS.iloadN X.here hx rfl (hb hby d3_105) rfl ?_
      show Steps p.tables e below (T.setTop (mkF m 106 #[.val (.int u1)] [(.int u1)])) _
      refine XS.sipush X.here hx rfl (hb hby d3_106) ?_
      show Steps p.tables e below (T.setTop (mkF m 109 #[.val (.int u1)] [(.int (895 : Int32)), (.int u1)])) _
      exact k
    by_cases hc109 : u1 < (895 : Int32)
    · refine own_go (b := T.setTop (mkF m 119 #[.val (.int u1)] [])) (fun t k => ?_) ?_
      · show Steps p.tables e below (T.setTop (mkF m 109 #[.val (.int u1)] [(.int (895 : Int32)), (.int u1)])) _
        refine XS.icmpYes X.here hx rfl (pc0 := 109) (pc' := 119) rfl (hb hby d3_109) rfl (tlt hc109).1 (by decide) (by decide) ?_
        show Steps p.tables e below (T.setTop (mkF m 119 #[.val (.int u1)] [])) _
        exact k
      exact J119 T _ X N eT    (by rw [hv, own_ns_105, if_pos hc109])
    · refine own_go (b := T.setTop (mkF m 116 #[.val (.int u1)] [(.int (8191 : Int32)), (.int u1)])) (fun t k => ?_) ?_
      · show Steps p.tables e below (T.setTop (mkF m 109 #[.val (.int u1)] [(.int (895 : Int32)), (.int u1)])) _
        refine XS.icmpNo X.here hx rfl (hb hby d3_109) rfl (flt hc109).1 ?_
        show Steps p.tables e below (T.setTop (mkF m 112 #[.val (.int u1)] [])) _
        refine XS.iloadN X.here hx rfl (hb hby d3_112) rfl ?_
        show Steps p.tables e below (T.setTop (mkF m 113 #[.val (.int u1)] [(.int u1)])) _
        refine XS.sipush X.here hx rfl (hb hby d3_113) ?_
        show Steps p.tables e below (T.setTop (mkF m 116 #[.val (.int u1)] [(.int (8191 : Int32)), (.int u1)])) _
        exact k
      by_cases hc116 : (8191 : Int32) < u1
      · refine own_go (b := T.setTop (mkF m 119 #[.val (.int u1)] [])) (fun t k => ?_) ?_
        · show Steps p.tables e below (T.setTop (mkF m 116 #[.val (.int u1)] [(.int (8191 : Int32)), (.int u1)])) _
          refine XS.icmpNo X.here hx rfl (hb hby d3_116) rfl (tlt hc116).2.2.2 ?_
          show Steps p.tables e below (T.setTop (mkF m 119 #[.val (.int u1)] [])) _
          exact k
        exact J119 T _ X N eT    (by rw [hv, own_ns_105, if_neg hc109, if_pos hc116])
      · refine own_end X Bd.notSynchronized (v := some (.int (1 : Int32))) (fun h => by rw [Bd.returns] at h; cases h) (fun fs hr => ?_) eT ?_ (by decide) (by decide)
        · show Steps p.tables e below (T.setTop (mkF m 116 #[.val (.int u1)] [(.int (8191 : Int32)), (.int u1)])) _
          refine XS.icmpYes X.here hx rfl (pc0 := 116) (pc' := 210) rfl (hb hby d3_116) rfl (flt hc116).2.2.2 (by decide) (by decide) ?_
          show Steps p.tables e below (T.setTop (mkF m 210 #[.val (.int u1)] [])) _
          refine XS.iconst X.here hx rfl (hb hby d3_210) ?_
          show Steps p.tables e below (T.setTop (mkF m 211 #[.val (.int u1)] [(.int (1 : Int32))])) _
          refine XS.goto X.here hx rfl (pc0 := 211) (pc' := 215) rfl (hb hby d3_211) (by decide) (by decide) ?_
          show Steps p.tables e below (T.setTop (mkF m 215 #[.val (.int u1)] [(.int (1 : Int32))])) _
          exact retN X hx (t := .boolean) Bd.returns (by simp) (hb hby d3_215) hr
        · exact ⟨by rw [hv, own_ns_105, if_neg hc109, if_neg hc116], N, rfl⟩
  have J91 : ∀ (T : State) (lc : List Loc), Stand p l e ({ frames := 0, cells := 0, slots := 0, locals := 0 } : Room) s m #[(.int u1)] below meth c T lc 0 0 → Fr n0 lc → T.heap = h0 → own_ns_0 u1 = own_ns_91 u1  → own_Go p e below s (Q3 u1 h0 n0) ({ frames := 0, cells := 0, slots := 0, locals := 0 } : Room).cells ({ frames := 0, cells := 0, slots := 0, locals := 0 } : Room).slots (T.setTop (mkF m 91 #[.val (.int u1)] [])) := by
    intro T lc X N eT    hv
    refine own_go (b := T.setTop (mkF m 95 #[.val (.int u1)] [(.int (880 : Int32)), (.int u1)])) (fun t k => ?_) ?_
    · show Steps p.tables e below (T.setTop (mkF m 91 #[.val (.int u1)] [])) _
      refine XS.iloadN X.here hx rfl (hb hby d3_91) rfl ?_
      show Steps p.tables e below (T.setTop (mkF m 92 #[.val (.int u1)] [(.int u1)])) _
      refine XS.sipush X.here hx rfl (hb hby d3_92) ?_
      show Steps p.tables e below (T.setTop (mkF m 95 #[.val (.int u1)] [(.int (880 : Int32)), (.int u1)])) _
      exact k
    by_cases hc95 : u1 < (880 : Int32)
    · refine own_go (b := T.setTop (mkF m 105 #[.val (.int u1)] [])) (fun t k => ?_) ?_
      · show Steps p.tables e below (T.setTop (mkF m 95 #[.val (.int u1)] [(.int (880 : Int32)), (.int u1)])) _
        refine XS.icmpYes X.here hx rfl (pc0 := 95) (pc' := 105) rfl (hb hby d3_95) rfl (tlt hc95).1 (by decide) (by decide) ?_
        show Steps p.tables e below (T.setTop (mkF m 105 #[.val (.int u1)] [])) _
        exact k
      exact J105 T _ X N eT    (by rw [hv, own_ns_91, if_pos hc95])
    · refine own_go (b := T.setTop (mkF m 102 #[.val (.int u1)] [(.int (893 : Int32)), (.int u1)])) (fun t k => ?_) ?_
      · show Steps p.tables e below (T.setTop (mkF m 95 #[.val (.int u1)] [(.int (880 : Int32)), (.int u1)])) _
        refine XS.icmpNo X.here hx rfl (hb hby d3_95) rfl (flt hc95).1 ?_
        show Steps p.tables e below (T.setTop (mkF m 98 #[.val (.int u1)] [])) _
        refine XS.iloadN X.here hx rfl (hb hby d3_98) rfl ?_
        show Steps p.tables e below (T.setTop (mkF m 99 #[.val (.int u1)] [(.int u1)])) _
        refine XS.sipush X.here hx rfl (hb hby d3_99) ?_
        show Steps p.tables e below (T.setTop (mkF m 102 #[.val (.int u1)] [(.int (893 : Int32)), (.int u1)])) _
        exact k
      by_cases hc102 : (893 : Int32) < u1
      · refine own_go (b := T.setTop (mkF m 105 #[.val (.int u1)] [])) (fun t k => ?_) ?_
        · show Steps p.tables e below (T.setTop (mkF m 102 #[.val (.int u1)] [(.int (893 : Int32)), (.int u1)])) _
          refine XS.icmpNo X.here hx rfl (hb hby d3_102) rfl (tlt hc102).2.2.2 ?_
          show Steps p.tables e below (T.setTop (mkF m 105 #[.val (.int u1)] [])) _
          exact k
        exact J105 T _ X N eT    (by rw [hv, own_ns_91, if_neg hc95, if_pos hc102])
      · refine own_end X Bd.notSynchronized (v := some (.int (1 : Int32))) (fun h => by rw [Bd.returns] at h; cases h) (fun fs hr => ?_) eT ?_ (by decide) (by decide)
        · show Steps p.tables e below (T.setTop (mkF m 102 #[.val (.int u1)] [(.int (893 : Int32)), (.int u1)])) _
          refine XS.icmpYes X.here hx rfl (pc0 := 102) (pc' := 210) rfl (hb hby d3_102) rfl (flt hc102).2.2.2 (by decide) (by decide) ?_
          show Steps p.tables e below (T.setTop (mkF m 210 #[.val (.int u1)] [])) _
          refine XS.iconst X.here hx rfl (hb hby d3_210) ?_
          show Steps p.tables e below (T.setTop (mkF m 211 #[.val (.int u1)] [(.int (1 : Int32))])) _
          refine XS.goto X.here hx rfl (pc0 := 211) (pc' := 215) rfl (hb hby d3_211) (by decide) (by decide) ?_
          show Steps p.tables e below (T.setTop (mkF m 215 #[.val (.int u1)] [(.int (1 : Int32))])) _
          exact retN X hx (t := .boolean) Bd.returns (by simp) (hb hby d3_215) hr
        · exact ⟨by rw [hv, own_ns_91, if_neg hc95, if_neg hc102], N, rfl⟩
  have J77 : ∀ (T : State) (lc : List Loc), Stand p l e ({ frames := 0, cells := 0, slots := 0, locals := 0 } : Room) s m #[(.int u1)] below meth c T lc 0 0 → Fr n0 lc → T.heap = h0 → own_ns_0 u1 = own_ns_77 u1  → own_Go p e below s (Q3 u1 h0 n0) ({ frames := 0, cells := 0, slots := 0, locals := 0 } : Room).cells ({ frames := 0, cells := 0, slots := 0, locals := 0 } : Room).slots (T.setTop (mkF m 77 #[.val (.int u1)] [])) := by
    intro T lc X N eT    hv
    refine own_go (b := T.setTop (mkF m 81 #[.val (.int u1)] [(.int (248 : Int32)), (.int u1)])) (fun t k => ?_) ?_
    · show Steps p.tables e below (T.setTop (mkF m 77 #[.val (.int u1)] [])) _
      refine XS.iloadN X.here hx rfl (hb hby d3_77) rfl ?_
      show Steps p.tables e below (T.setTop (mkF m 78 #[.val (.int u1)] [(.int u1)])) _
      refine XS.sipush X.here hx rfl (hb hby d3_78) ?_
      show Steps p.tables e below (T.setTop (mkF m 81 #[.val (.int u1)] [(.int (248 : Int32)), (.int u1)])) _
      exact k
    by_cases hc81 : u1 < (248 : Int32)
    · refine own_go (b := T.setTop (mkF m 91 #[.val (.int u1)] [])) (fun t k => ?_) ?_
      · show Steps p.tables e below (T.setTop (mkF m 81 #[.val (.int u1)] [(.int (248 : Int32)), (.int u1)])) _
        refine XS.icmpYes X.here hx rfl (pc0 := 81) (pc' := 91) rfl (hb hby d3_81) rfl (tlt hc81).1 (by decide) (by decide) ?_
        show Steps p.tables e below (T.setTop (mkF m 91 #[.val (.int u1)] [])) _
        exact k
      exact J91 T _ X N eT    (by rw [hv, own_ns_77, if_pos hc81])
    · refine own_go (b := T.setTop (mkF m 88 #[.val (.int u1)] [(.int (767 : Int32)), (.int u1)])) (fun t k => ?_) ?_
      · show Steps p.tables e below (T.setTop (mkF m 81 #[.val (.int u1)] [(.int (248 : Int32)), (.int u1)])) _
        refine XS.icmpNo X.here hx rfl (hb hby d3_81) rfl (flt hc81).1 ?_
        show Steps p.tables e below (T.setTop (mkF m 84 #[.val (.int u1)] [])) _
        refine XS.iloadN X.here hx rfl (hb hby d3_84) rfl ?_
        show Steps p.tables e below (T.setTop (mkF m 85 #[.val (.int u1)] [(.int u1)])) _
        refine XS.sipush X.here hx rfl (hb hby d3_85) ?_
        show Steps p.tables e below (T.setTop (mkF m 88 #[.val (.int u1)] [(.int (767 : Int32)), (.int u1)])) _
        exact k
      by_cases hc88 : (767 : Int32) < u1
      · refine own_go (b := T.setTop (mkF m 91 #[.val (.int u1)] [])) (fun t k => ?_) ?_
        · show Steps p.tables e below (T.setTop (mkF m 88 #[.val (.int u1)] [(.int (767 : Int32)), (.int u1)])) _
          refine XS.icmpNo X.here hx rfl (hb hby d3_88) rfl (tlt hc88).2.2.2 ?_
          show Steps p.tables e below (T.setTop (mkF m 91 #[.val (.int u1)] [])) _
          exact k
        exact J91 T _ X N eT    (by rw [hv, own_ns_77, if_neg hc81, if_pos hc88])
      · refine own_end X Bd.notSynchronized (v := some (.int (1 : Int32))) (fun h => by rw [Bd.returns] at h; cases h) (fun fs hr => ?_) eT ?_ (by decide) (by decide)
        · show Steps p.tables e below (T.setTop (mkF m 88 #[.val (.int u1)] [(.int (767 : Int32)), (.int u1)])) _
          refine XS.icmpYes X.here hx rfl (pc0 := 88) (pc' := 210) rfl (hb hby d3_88) rfl (flt hc88).2.2.2 (by decide) (by decide) ?_
          show Steps p.tables e below (T.setTop (mkF m 210 #[.val (.int u1)] [])) _
          refine XS.iconst X.here hx rfl (hb hby d3_210) ?_
          show Steps p.tables e below (T.setTop (mkF m 211 #[.val (.int u1)] [(.int (1 : Int32))])) _
          refine XS.goto X.here hx rfl (pc0 := 211) (pc' := 215) rfl (hb hby d3_211) (by decide) (by decide) ?_
          show Steps p.tables e below (T.setTop (mkF m 215 #[.val (.int u1)] [(.int (1 : Int32))])) _
          exact retN X hx (t := .boolean) Bd.returns (by simp) (hb hby d3_215) hr
        · exact ⟨by rw [hv, own_ns_77, if_neg hc81, if_neg hc88], N, rfl⟩
  have J63 : ∀ (T : State) (lc : List Loc), Stand p l e ({ frames := 0, cells := 0, slots := 0, locals := 0 } : Room) s m #[(.int u1)] below meth c T lc 0 0 → Fr n0 lc → T.heap = h0 → own_ns_0 u1 = own_ns_63 u1  → own_Go p e below s (Q3 u1 h0 n0) ({ frames := 0, cells := 0, slots := 0, locals := 0 } : Room).cells ({ frames := 0, cells := 0, slots := 0, locals := 0 } : Room).slots (T.setTop (mkF m 63 #[.val (.int u1)] [])) := by
    intro T lc X N eT    hv
    refine own_go (b := T.setTop (mkF m 67 #[.val (.int u1)] [(.int (216 : Int32)), (.int u1)])) (fun t k => ?_) ?_
    · show Steps p.tables e below (T.setTop (mkF m 63 #[.val (.int u1)] [])) _
      refine XS.iloadN X.here hx rfl (hb hby d3_63) rfl ?_
      show Steps p.tables e below (T.setTop (mkF m 64 #[.val (.int u1)] [(.int u1)])) _
      refine XS.sipush X.here hx rfl (hb hby d3_64) ?_
      show Steps p.tables e below (T.setTop (mkF m 67 #[.val (.int u1)] [(.int (216 : Int32)), (.int u1)])) _
      exact k
    by_cases hc67 : u1 < (216 : Int32)
    · refine own_go (b := T.setTop (mkF m 77 #[.val (.int u1)] [])) (fun t k => ?_) ?_
      · show Steps p.tables e below (T.setTop (mkF m 67 #[.val (.int u1)] [(.int (216 : Int32)), (.int u1)])) _
        refine XS.icmpYes X.here hx rfl (pc0 := 67) (pc' := 77) rfl (hb hby d3_67) rfl (tlt hc67).1 (by decide) (by decide) ?_
        show Steps p.tables e below (T.setTop (mkF m 77 #[.val (.int u1)] [])) _
        exact k
      exact J77 T _ X N eT    (by rw [hv, own_ns_63, if_pos hc67])
    · refine own_go (b := T.setTop (mkF m 74 #[.val (.int u1)] [(.int (246 : Int32)), (.int u1)])) (fun t k => ?_) ?_
      · show Steps p.tables e below (T.setTop (mkF m 67 #[.val (.int u1)] [(.int (216 : Int32)), (.int u1)])) _
        refine XS.icmpNo X.here hx rfl (hb hby d3_67) rfl (flt hc67).1 ?_
        show Steps p.tables e below (T.setTop (mkF m 70 #[.val (.int u1)] [])) _
        refine XS.iloadN X.here hx rfl (hb hby d3_70) rfl ?_
        show Steps p.tables e below (T.setTop (mkF m 71 #[.val (.int u1)] [(.int u1)])) _
        refine XS.sipush X.here hx rfl (hb hby d3_71) ?_
        show Steps p.tables e below (T.setTop (mkF m 74 #[.val (.int u1)] [(.int (246 : Int32)), (.int u1)])) _
        exact k
      by_cases hc74 : (246 : Int32) < u1
      · refine own_go (b := T.setTop (mkF m 77 #[.val (.int u1)] [])) (fun t k => ?_) ?_
        · show Steps p.tables e below (T.setTop (mkF m 74 #[.val (.int u1)] [(.int (246 : Int32)), (.int u1)])) _
          refine XS.icmpNo X.here hx rfl (hb hby d3_74) rfl (tlt hc74).2.2.2 ?_
          show Steps p.tables e below (T.setTop (mkF m 77 #[.val (.int u1)] [])) _
          exact k
        exact J77 T _ X N eT    (by rw [hv, own_ns_63, if_neg hc67, if_pos hc74])
      · refine own_end X Bd.notSynchronized (v := some (.int (1 : Int32))) (fun h => by rw [Bd.returns] at h; cases h) (fun fs hr => ?_) eT ?_ (by decide) (by decide)
        · show Steps p.tables e below (T.setTop (mkF m 74 #[.val (.int u1)] [(.int (246 : Int32)), (.int u1)])) _
          refine XS.icmpYes X.here hx rfl (pc0 := 74) (pc' := 210) rfl (hb hby d3_74) rfl (flt hc74).2.2.2 (by decide) (by decide) ?_
          show Steps p.tables e below (T.setTop (mkF m 210 #[.val (.int u1)] [])) _
          refine XS.iconst X.here hx rfl (hb hby d3_210) ?_
          show Steps p.tables e below (T.setTop (mkF m 211 #[.val (.int u1)] [(.int (1 : Int32))])) _
          refine XS.goto X.here hx rfl (pc0 := 211) (pc' := 215) rfl (hb hby d3_211) (by decide) (by decide) ?_
          show Steps p.tables e below (T.setTop (mkF m 215 #[.val (.int u1)] [(.int (1 : Int32))])) _
          exact retN X hx (t := .boolean) Bd.returns (by simp) (hb hby d3_215) hr
        · exact ⟨by rw [hv, own_ns_63, if_neg hc67, if_neg hc74], N, rfl⟩
  have J31 : ∀ (T : State) (lc : List Loc), Stand p l e ({ frames := 0, cells := 0, slots := 0, locals := 0 } : Room) s m #[(.int u1)] below meth c T lc 0 0 → Fr n0 lc → T.heap = h0 → own_ns_0 u1 = own_ns_31 u1  → own_Go p e below s (Q3 u1 h0 n0) ({ frames := 0, cells := 0, slots := 0, locals := 0 } : Room).cells ({ frames := 0, cells := 0, slots := 0, locals := 0 } : Room).slots (T.setTop (mkF m 31 #[.val (.int u1)] [])) := by
    intro T lc X N eT    hv
    refine own_go (b := T.setTop (mkF m 34 #[.val (.int u1)] [(.int (95 : Int32)), (.int u1)])) (fun t k => ?_) ?_
    · show Steps p.tables e below (T.setTop (mkF m 31 #[.val (.int u1)] [])) _
      refine XS.iloadN X.here hx rfl (hb hby d3_31) rfl ?_
      show Steps p.tables e below (T.setTop (mkF m 32 #[.val (.int u1)] [(.int u1)])) _
      refine XS.bipush X.here hx rfl (hb hby d3_32) ?_
      show Steps p.tables e below (T.setTop (mkF m 34 #[.val (.int u1)] [(.int (95 : Int32)), (.int u1)])) _
      exact k
    by_cases hc34 : u1 = (95 : Int32)
    · refine own_end X Bd.notSynchronized (v := some (.int (1 : Int32))) (fun h => by rw [Bd.returns] at h; cases h) (fun fs hr => ?_) eT ?_ (by decide) (by decide)
      · show Steps p.tables e below (T.setTop (mkF m 34 #[.val (.int u1)] [(.int (95 : Int32)), (.int u1)])) _
        refine XS.icmpYes X.here hx rfl (pc0 := 34) (pc' := 43) rfl (hb hby d3_34) rfl (teq hc34).1 (by decide) (by decide) ?_
        show Steps p.tables e below (T.setTop (mkF m 43 #[.val (.int u1)] [])) _
        refine XS.iconst X.here hx rfl (hb hby d3_43) ?_
        show Steps p.tables e below (T.setTop (mkF m 44 #[.val (.int u1)] [(.int (1 : Int32))])) _
        refine XS.goto X.here hx rfl (pc0 := 44) (pc' := 48) rfl (hb hby d3_44) (by decide) (by decide) ?_
        show Steps p.tables e below (T.setTop (mkF m 48 #[.val (.int u1)] [(.int (1 : Int32))])) _
        exact retN X hx (t := .boolean) Bd.returns (by simp) (hb hby d3_48) hr
      · exact ⟨by rw [hv, own_ns_31, if_pos hc34], N, rfl⟩
    · refine own_go (b := T.setTop (mkF m 40 #[.val (.int u1)] [(.int (58 : Int32)), (.int u1)])) (fun t k => ?_) ?_
      · show Steps p.tables e below (T.setTop (mkF m 34 #[.val (.int u1)] [(.int (95 : Int32)), (.int u1)])) _
        refine XS.icmpNo X.here hx rfl (hb hby d3_34) rfl (feq hc34).1 ?_
        show Steps p.tables e below (T.setTop (mkF m 37 #[.val (.int u1)] [])) _
        refine XS.iloadN X.here hx rfl (hb hby d3_37) rfl ?_
        show Steps p.tables e below (T.setTop (mkF m 38 #[.val (.int u1)] [(.int u1)])) _
        refine XS.bipush X.here hx rfl (hb hby d3_38) ?_
        show Steps p.tables e below (T.setTop (mkF m 40 #[.val (.int u1)] [(.int (58 : Int32)), (.int u1)])) _
        exact k
      by_cases hc40 : u1 = (58 : Int32)
      · refine own_end X Bd.notSynchronized (v := some (.int (1 : Int32))) (fun h => by rw [Bd.returns] at h; cases h) (fun fs hr => ?_) eT ?_ (by decide) (by decide)
        · show Steps p.tables e below (T.setTop (mkF m 40 #[.val (.int u1)] [(.int (58 : Int32)), (.int u1)])) _
          refine XS.icmpNo X.here hx rfl (hb hby d3_40) rfl (teq hc40).2 ?_
          show Steps p.tables e below (T.setTop (mkF m 43 #[.val (.int u1)] [])) _
          refine XS.iconst X.here hx rfl (hb hby d3_43) ?_
          show Steps p.tables e below (T.setTop (mkF m 44 #[.val (.int u1)] [(.int (1 : Int32))])) _
          refine XS.goto X.here hx rfl (pc0 := 44) (pc' := 48) rfl (hb hby d3_44) (by decide) (by decide) ?_
          show Steps p.tables e below (T.setTop (mkF m 48 #[.val (.int u1)] [(.int (1 : Int32))])) _
          exact retN X hx (t := .boolean) Bd.returns (by simp) (hb hby d3_48) hr
        · exact ⟨by rw [hv, own_ns_31, if_neg hc34, if_pos hc40], N, rfl⟩
      · refine own_end X Bd.notSynchronized (v := some (.int (0 : Int32))) (fun h => by rw [Bd.returns] at h; cases h) (fun fs hr => ?_) eT ?_ (by decide) (by decide)
        · show Steps p.tables e below (T.setTop (mkF m 40 #[.val (.int u1)] [(.int (58 : Int32)), (.int u1)])) _
          refine XS.icmpYes X.here hx rfl (pc0 := 40) (pc' := 47) rfl (hb hby d3_40) rfl (feq hc40).2 (by decide) (by decide) ?_
          show Steps p.tables e below (T.setTop (mkF m 47 #[.val (.int u1)] [])) _
          refine XS.iconst X.here hx rfl (hb hby d3_47) ?_
          show Steps p.tables e below (T.setTop (mkF m 48 #[.val (.int u1)] [(.int (0 : Int32))])) _
          exact retN X hx (t := .boolean) Bd.returns (by simp) (hb hby d3_48) hr
        · exact ⟨by rw [hv, own_ns_31, if_neg hc34, if_neg hc40], N, rfl⟩
  have J19 : ∀ (T : State) (lc : List Loc), Stand p l e ({ frames := 0, cells := 0, slots := 0, locals := 0 } : Room) s m #[(.int u1)] below meth c T lc 0 0 → Fr n0 lc → T.heap = h0 → own_ns_0 u1 = own_ns_19 u1  → own_Go p e below s (Q3 u1 h0 n0) ({ frames := 0, cells := 0, slots := 0, locals := 0 } : Room).cells ({ frames := 0, cells := 0, slots := 0, locals := 0 } : Room).slots (T.setTop (mkF m 19 #[.val (.int u1)] [])) := by
    intro T lc X N eT    hv
    refine own_go (b := T.setTop (mkF m 22 #[.val (.int u1)] [(.int (65 : Int32)), (.int u1)])) (fun t k => ?_) ?_
    · show Steps p.tables e below (T.setTop (mkF m 19 #[.val (.int u1)] [])) _
      refine XS.iloadN X.here hx rfl (hb hby d3_19) rfl ?_
      show Steps p.tables e below (T.setTop (mkF m 20 #[.val (.int u1)] [(.int u1)])) _
      refine XS.bipush X.here hx rfl (hb hby d3_20) ?_
      show Steps p.tables e below (T.setTop (mkF m 22 #[.val (.int u1)] [(.int (65 : Int32)), (.int u1)])) _
      exact k
    by_cases hc22 : u1 < (65 : Int32)
    · refine own_go (b := T.setTop (mkF m 31 #[.val (.int u1)] [])) (fun t k => ?_) ?_
      · show Steps p.tables e below (T.setTop (mkF m 22 #[.val (.int u1)] [(.int (65 : Int32)), (.int u1)])) _
        refine XS.icmpYes X.here hx rfl (pc0 := 22) (pc' := 31) rfl (hb hby d3_22) rfl (tlt hc22).1 (by decide) (by decide) ?_
        show Steps p.tables e below (T.setTop (mkF m 31 #[.val (.int u1)] [])) _
        exact k
      exact J31 T _ X N eT    (by rw [hv, own_ns_19, if_pos hc22])
    · refine own_go (b := T.setTop (mkF m 28 #[.val (.int u1)] [(.int (90 : Int32)), (.int u1)])) (fun t k => ?_) ?_
      · show Steps p.tables e below (T.setTop (mkF m 22 #[.val (.int u1)] [(.int (65 : Int32)), (.int u1)])) _
        refine XS.icmpNo X.here hx rfl (hb hby d3_22) rfl (flt hc22).1 ?_
        show Steps p.tables e below (T.setTop (mkF m 25 #[.val (.int u1)] [])) _
        refine XS.iloadN X.here hx rfl (hb hby d3_25) rfl ?_
        show Steps p.tables e below (T.setTop (mkF m 26 #[.val (.int u1)] [(.int u1)])) _
        refine XS.bipush X.here hx rfl (hb hby d3_26) ?_
        show Steps p.tables e below (T.setTop (mkF m 28 #[.val (.int u1)] [(.int (90 : Int32)), (.int u1)])) _
        exact k
      by_cases hc28 : (90 : Int32) < u1
      · refine own_go (b := T.setTop (mkF m 31 #[.val (.int u1)] [])) (fun t k => ?_) ?_
        · show Steps p.tables e below (T.setTop (mkF m 28 #[.val (.int u1)] [(.int (90 : Int32)), (.int u1)])) _
          refine XS.icmpNo X.here hx rfl (hb hby d3_28) rfl (tlt hc28).2.2.2 ?_
          show Steps p.tables e below (T.setTop (mkF m 31 #[.val (.int u1)] [])) _
          exact k
        exact J31 T _ X N eT    (by rw [hv, own_ns_19, if_neg hc22, if_pos hc28])
      · refine own_end X Bd.notSynchronized (v := some (.int (1 : Int32))) (fun h => by rw [Bd.returns] at h; cases h) (fun fs hr => ?_) eT ?_ (by decide) (by decide)
        · show Steps p.tables e below (T.setTop (mkF m 28 #[.val (.int u1)] [(.int (90 : Int32)), (.int u1)])) _
          refine XS.icmpYes X.here hx rfl (pc0 := 28) (pc' := 43) rfl (hb hby d3_28) rfl (flt hc28).2.2.2 (by decide) (by decide) ?_
          show Steps p.tables e below (T.setTop (mkF m 43 #[.val (.int u1)] [])) _
          refine XS.iconst X.here hx rfl (hb hby d3_43) ?_
          show Steps p.tables e below (T.setTop (mkF m 44 #[.val (.int u1)] [(.int (1 : Int32))])) _
          refine XS.goto X.here hx rfl (pc0 := 44) (pc' := 48) rfl (hb hby d3_44) (by decide) (by decide) ?_
          show Steps p.tables e below (T.setTop (mkF m 48 #[.val (.int u1)] [(.int (1 : Int32))])) _
          exact retN X hx (t := .boolean) Bd.returns (by simp) (hb hby d3_48) hr
        · exact ⟨by rw [hv, own_ns_19, if_neg hc22, if_neg hc28], N, rfl⟩
  refine own_go (b := s₁.setTop (mkF m 4 #[.val (.int u1)] [(.int (128 : Int32)), (.int u1)])) (fun t k => ?_) ?_
  · show Steps p.tables e below (s₁.setTop (mkF m 0 #[.val (.int u1)] [])) _
    refine XS.iloadN X0.here hx rfl (hb hby d3_0) rfl ?_
    show Steps p.tables e below (s₁.setTop (mkF m 1 #[.val (.int u1)] [(.int u1)])) _
    refine XS.sipush X0.here hx rfl (hb hby d3_1) ?_
    show Steps p.tables e below (s₁.setTop (mkF m 4 #[.val (.int u1)] [(.int (128 : Int32)), (.int u1)])) _
    exact k
  by_cases hc4 : u1 < (128 : Int32)
  · refine own_go (b := s₁.setTop (mkF m 10 #[.val (.int u1)] [(.int (97 : Int32)), (.int u1)])) (fun t k => ?_) ?_
    · show Steps p.tables e below (s₁.setTop (mkF m 4 #[.val (.int u1)] [(.int (128 : Int32)), (.int u1)])) _
      refine XS.icmpNo X0.here hx rfl (hb hby d3_4) rfl (tlt hc4).2.1 ?_
      show Steps p.tables e below (s₁.setTop (mkF m 7 #[.val (.int u1)] [])) _
      refine XS.iloadN X0.here hx rfl (hb hby d3_7) rfl ?_
      show Steps p.tables e below (s₁.setTop (mkF m 8 #[.val (.int u1)] [(.int u1)])) _
      refine XS.bipush X0.here hx rfl (hb hby d3_8) ?_
      show Steps p.tables e below (s₁.setTop (mkF m 10 #[.val (.int u1)] [(.int (97 : Int32)), (.int u1)])) _
      exact k
    by_cases hc10 : u1 < (97 : Int32)
    · refine own_go (b := s₁.setTop (mkF m 19 #[.val (.int u1)] [])) (fun t k => ?_) ?_
      · show Steps p.tables e below (s₁.setTop (mkF m 10 #[.val (.int u1)] [(.int (97 : Int32)), (.int u1)])) _
        refine XS.icmpYes X0.here hx rfl (pc0 := 10) (pc' := 19) rfl (hb hby d3_10) rfl (tlt hc10).1 (by decide) (by decide) ?_
        show Steps p.tables e below (s₁.setTop (mkF m 19 #[.val (.int u1)] [])) _
        exact k
      exact J19 s₁ _ X0 N0 e0    (by rw [own_ns_0, if_pos hc4, if_pos hc10])
    · refine own_go (b := s₁.setTop (mkF m 16 #[.val (.int u1)] [(.int (122 : Int32)), (.int u1)])) (fun t k => ?_) ?_
      · show Steps p.tables e below (s₁.setTop (mkF m 10 #[.val (.int u1)] [(.int (97 : Int32)), (.int u1)])) _
        refine XS.icmpNo X0.here hx rfl (hb hby d3_10) rfl (flt hc10).1 ?_
        show Steps p.tables e below (s₁.setTop (mkF m 13 #[.val (.int u1)] [])) _
        refine XS.iloadN X0.here hx rfl (hb hby d3_13) rfl ?_
        show Steps p.tables e below (s₁.setTop (mkF m 14 #[.val (.int u1)] [(.int u1)])) _
        refine XS.bipush X0.here hx rfl (hb hby d3_14) ?_
        show Steps p.tables e below (s₁.setTop (mkF m 16 #[.val (.int u1)] [(.int (122 : Int32)), (.int u1)])) _
        exact k
      by_cases hc16 : (122 : Int32) < u1
      · refine own_go (b := s₁.setTop (mkF m 19 #[.val (.int u1)] [])) (fun t k => ?_) ?_
        · show Steps p.tables e below (s₁.setTop (mkF m 16 #[.val (.int u1)] [(.int (122 : Int32)), (.int u1)])) _
          refine XS.icmpNo X0.here hx rfl (hb hby d3_16) rfl (tlt hc16).2.2.2 ?_
          show Steps p.tables e below (s₁.setTop (mkF m 19 #[.val (.int u1)] [])) _
          exact k
        exact J19 s₁ _ X0 N0 e0    (by rw [own_ns_0, if_pos hc4, if_neg hc10, if_pos hc16])
      · refine own_end X0 Bd.notSynchronized (v := some (.int (1 : Int32))) (fun h => by rw [Bd.returns] at h; cases h) (fun fs hr => ?_) e0 ?_ (by decide) (by decide)
        · show Steps p.tables e below (s₁.setTop (mkF m 16 #[.val (.int u1)] [(.int (122 : Int32)), (.int u1)])) _
          refine XS.icmpYes X0.here hx rfl (pc0 := 16) (pc' := 43) rfl (hb hby d3_16) rfl (flt hc16).2.2.2 (by decide) (by decide) ?_
          show Steps p.tables e below (s₁.setTop (mkF m 43 #[.val (.int u1)] [])) _
          refine XS.iconst X0.here hx rfl (hb hby d3_43) ?_
          show Steps p.tables e below (s₁.setTop (mkF m 44 #[.val (.int u1)] [(.int (1 : Int32))])) _
          refine XS.goto X0.here hx rfl (pc0 := 44) (pc' := 48) rfl (hb hby d3_44) (by decide) (by decide) ?_
          show Steps p.tables e below (s₁.setTop (mkF m 48 #[.val (.int u1)] [(.int (1 : Int32))])) _
          exact retN X0 hx (t := .boolean) Bd.returns (by simp) (hb hby d3_48) hr
        · exact ⟨by rw [own_ns_0, if_pos hc4, if_neg hc10, if_neg hc16], N0, rfl⟩
  · refine own_go (b := s₁.setTop (mkF m 53 #[.val (.int u1)] [(.int (192 : Int32)), (.int u1)])) (fun t k => ?_) ?_
    · show Steps p.tables e below (s₁.setTop (mkF m 4 #[.val (.int u1)] [(.int (128 : Int32)), (.int u1)])) _
      refine XS.icmpYes X0.here hx rfl (pc0 := 4) (pc' := 49) rfl (hb hby d3_4) rfl (flt hc4).2.1 (by decide) (by decide) ?_
      show Steps p.tables e below (s₁.setTop (mkF m 49 #[.val (.int u1)] [])) _
      refine XS.iloadN X0.here hx rfl (hb hby d3_49) rfl ?_
      show Steps p.tables e below (s₁.setTop (mkF m 50 #[.val (.int u1)] [(.int u1)])) _
      refine XS.sipush X0.here hx rfl (hb hby d3_50) ?_
      show Steps p.tables e below (s₁.setTop (mkF m 53 #[.val (.int u1)] [(.int (192 : Int32)), (.int u1)])) _
      exact k
    by_cases hc53 : u1 < (192 : Int32)
    · refine own_go (b := s₁.setTop (mkF m 63 #[.val (.int u1)] [])) (fun t k => ?_) ?_
      · show Steps p.tables e below (s₁.setTop (mkF m 53 #[.val (.int u1)] [(.int (192 : Int32)), (.int u1)])) _
        refine XS.icmpYes X0.here hx rfl (pc0 := 53) (pc' := 63) rfl (hb hby d3_53) rfl (tlt hc53).1 (by decide) (by decide) ?_
        show Steps p.tables e below (s₁.setTop (mkF m 63 #[.val (.int u1)] [])) _
        exact k
      exact J63 s₁ _ X0 N0 e0    (by rw [own_ns_0, if_neg hc4, if_pos hc53])
    · refine own_go (b := s₁.setTop (mkF m 60 #[.val (.int u1)] [(.int (214 : Int32)), (.int u1)])) (fun t k => ?_) ?_
      · show Steps p.tables e below (s₁.setTop (mkF m 53 #[.val (.int u1)] [(.int (192 : Int32)), (.int u1)])) _
        refine XS.icmpNo X0.here hx rfl (hb hby d3_53) rfl (flt hc53).1 ?_
        show Steps p.tables e below (s₁.setTop (mkF m 56 #[.val (.int u1)] [])) _
        refine XS.iloadN X0.here hx rfl (hb hby d3_56) rfl ?_
        show Steps p.tables e below (s₁.setTop (mkF m 57 #[.val (.int u1)] [(.int u1)])) _
        refine XS.sipush X0.here hx rfl (hb hby d3_57) ?_
        show Steps p.tables e below (s₁.setTop (mkF m 60 #[.val (.int u1)] [(.int (214 : Int32)), (.int u1)])) _
        exact k
      by_cases hc60 : (214 : Int32) < u1
      · refine own_go (b := s₁.setTop (mkF m 63 #[.val (.int u1)] [])) (fun t k => ?_) ?_
        · show Steps p.tables e below (s₁.setTop (mkF m 60 #[.val (.int u1)] [(.int (214 : Int32)), (.int u1)])) _
          refine XS.icmpNo X0.here hx rfl (hb hby d3_60) rfl (tlt hc60).2.2.2 ?_
          show Steps p.tables e below (s₁.setTop (mkF m 63 #[.val (.int u1)] [])) _
          exact k
        exact J63 s₁ _ X0 N0 e0    (by rw [own_ns_0, if_neg hc4, if_neg hc53, if_pos hc60])
      · refine own_end X0 Bd.notSynchronized (v := some (.int (1 : Int32))) (fun h => by rw [Bd.returns] at h; cases h) (fun fs hr => ?_) e0 ?_ (by decide) (by decide)
        · show Steps p.tables e below (s₁.setTop (mkF m 60 #[.val (.int u1)] [(.int (214 : Int32)), (.int u1)])) _
          refine XS.icmpYes X0.here hx rfl (pc0 := 60) (pc' := 210) rfl (hb hby d3_60) rfl (flt hc60).2.2.2 (by decide) (by decide) ?_
          show Steps p.tables e below (s₁.setTop (mkF m 210 #[.val (.int u1)] [])) _
          refine XS.iconst X0.here hx rfl (hb hby d3_210) ?_
          show Steps p.tables e below (s₁.setTop (mkF m 211 #[.val (.int u1)] [(.int (1 : Int32))])) _
          refine XS.goto X0.here hx rfl (pc0 := 211) (pc' := 215) rfl (hb hby d3_211) (by decide) (by decide) ?_
          show Steps p.tables e below (s₁.setTop (mkF m 215 #[.val (.int u1)] [(.int (1 : Int32))])) _
          exact retN X0 hx (t := .boolean) Bd.returns (by simp) (hb hby d3_215) hr
        · exact ⟨by rw [own_ns_0, if_neg hc4, if_neg hc53, if_neg hc60], N0, rfl⟩
theorem own_ltT {u k : Int32} {m : Int} (hk : k.toInt = m) (h : u.toInt < m) : u < k := Int32.lt_iff_toInt_lt.mpr (by rw [hk]; exact h)
theorem own_ltF {u k : Int32} {m : Int} (hk : k.toInt = m) (h : m ≤ u.toInt) : ¬ u < k := fun q => by have := Int32.lt_iff_toInt_lt.mp q; omega
theorem own_gtT {u k : Int32} {m : Int} (hk : k.toInt = m) (h : m < u.toInt) : k < u := Int32.lt_iff_toInt_lt.mpr (by rw [hk]; exact h)
theorem own_gtF {u k : Int32} {m : Int} (hk : k.toInt = m) (h : u.toInt ≤ m) : ¬ k < u := fun q => by have := Int32.lt_iff_toInt_lt.mp q; omega
theorem own_eqT {u k : Int32} {m : Int} (hk : k.toInt = m) (h : u.toInt = m) : u = k := Int32.toInt_inj.mp (h.trans hk.symm)
theorem own_eqF {u k : Int32} {m : Int} (hk : k.toInt = m) (h : u.toInt ≠ m) : ¬ u = k := fun q => h (by rw [q]; exact hk)
theorem own_inT {u a b : Int32} {m k : Int} (ha : a.toInt = m) (hb : b.toInt = k) (h : u.toInt < m ∨ k < u.toInt) : own_in_0 u a b = (0 : Int32) := by
  rw [own_in_0]
  rcases h with h | h
  · rw [if_pos (own_ltT ha h)]
  · by_cases q : u < a
    · rw [if_pos q]
    · rw [if_neg q, if_pos (own_gtT hb h)]
theorem own_inF {u a b : Int32} {m k : Int} (ha : a.toInt = m) (hb : b.toInt = k) (h1 : m ≤ u.toInt) (h2 : u.toInt ≤ k) : ¬ own_in_0 u a b = (0 : Int32) := by
  rw [own_in_0, if_neg (own_ltF ha h1), if_neg (own_gtF hb h2)]
  decide
theorem own_reg_0 (u1 : Int32) (h2 : u1.toInt < 58) : own_ns_0 u1 = own_ref_0 u1 := by
  rw [own_ns_0, if_pos (own_ltT (u := u1) (k := (128 : Int32)) (m := 128) rfl (by omega)), if_pos (own_ltT (u := u1) (k := (97 : Int32)) (m := 97) rfl (by omega)), own_ns_19, if_pos (own_ltT (u := u1) (k := (65 : Int32)) (m := 65) rfl (by omega)), own_ns_31, if_neg (own_eqF (u := u1) (k := (95 : Int32)) (m := 95) rfl (by omega)), if_neg (own_eqF (u := u1) (k := (58 : Int32)) (m := 58) rfl (by omega))]
  rw [own_ref_0, if_pos (own_ltT (u := u1) (k := (65 : Int32)) (m := 65) rfl (by omega)), if_neg (own_eqF (u := u1) (k := (58 : Int32)) (m := 58) rfl (by omega))]
theorem own_reg_1 (u1 : Int32) (h1 : 58 ≤ u1.toInt) (h2 : u1.toInt < 59) : own_ns_0 u1 = own_ref_0 u1 := by
  rw [own_ns_0, if_pos (own_ltT (u := u1) (k := (128 : Int32)) (m := 128) rfl (by omega)), if_pos (own_ltT (u := u1) (k := (97 : Int32)) (m := 97) rfl (by omega)), own_ns_19, if_pos (own_ltT (u := u1) (k := (65 : Int32)) (m := 65) rfl (by omega)), own_ns_31, if_neg (own_eqF (u := u1) (k := (95 : Int32)) (m := 95) rfl (by omega)), if_pos (own_eqT (u := u1) (k := (58 : Int32)) (m := 58) rfl (by omega))]
  rw [own_ref_0, if_pos (own_ltT (u := u1) (k := (65 : Int32)) (m := 65) rfl (by omega)), if_pos (own_eqT (u := u1) (k := (58 : Int32)) (m := 58) rfl (by omega))]
theorem own_reg_2 (u1 : Int32) (h1 : 59 ≤ u1.toInt) (h2 : u1.toInt < 65) : own_ns_0 u1 = own_ref_0 u1 := by
  rw [own_ns_0, if_pos (own_ltT (u := u1) (k := (128 : Int32)) (m := 128) rfl (by omega)), if_pos (own_ltT (u := u1) (k := (97 : Int32)) (m := 97) rfl (by omega)), own_ns_19, if_pos (own_ltT (u := u1) (k := (65 : Int32)) (m := 65) rfl (by omega)), own_ns_31, if_neg (own_eqF (u := u1) (k := (95 : Int32)) (m := 95) rfl (by omega)), if_neg (own_eqF (u := u1) (k := (58 : Int32)) (m := 58) rfl (by omega))]
  rw [own_ref_0, if_pos (own_ltT (u := u1) (k := (65 : Int32)) (m := 65) rfl (by omega)), if_neg (own_eqF (u := u1) (k := (58 : Int32)) (m := 58) rfl (by omega))]
theorem own_reg_3 (u1 : Int32) (h1 : 65 ≤ u1.toInt) (h2 : u1.toInt < 91) : own_ns_0 u1 = own_ref_0 u1 := by
  rw [own_ns_0, if_pos (own_ltT (u := u1) (k := (128 : Int32)) (m := 128) rfl (by omega)), if_pos (own_ltT (u := u1) (k := (97 : Int32)) (m := 97) rfl (by omega)), own_ns_19, if_neg (own_ltF (u := u1) (k := (65 : Int32)) (m := 65) rfl (by omega)), if_neg (own_gtF (u := u1) (k := (90 : Int32)) (m := 90) rfl (by omega))]
  rw [own_ref_0, if_neg (own_ltF (u := u1) (k := (65 : Int32)) (m := 65) rfl (by omega)), if_neg (own_gtF (u := u1) (k := (983039 : Int32)) (m := 983039) rfl (by omega)), if_pos (own_inT (u := u1) (a := (91 : Int32)) (b := (94 : Int32)) (m := 91) (k := 94) rfl rfl (by omega)), if_neg (own_eqF (u := u1) (k := (96 : Int32)) (m := 96) rfl (by omega)), if_pos (own_inT (u := u1) (a := (123 : Int32)) (b := (191 : Int32)) (m := 123) (k := 191) rfl rfl (by omega)), if_neg (own_eqF (u := u1) (k := (215 : Int32)) (m := 215) rfl (by omega)), if_neg (own_eqF (u := u1) (k := (247 : Int32)) (m := 247) rfl (by omega)), if_pos (own_inT (u := u1) (a := (768 : Int32)) (b := (879 : Int32)) (m := 768) (k := 879) rfl rfl (by omega)), if_neg (own_eqF (u := u1) (k := (894 : Int32)) (m := 894) rfl (by omega)), if_pos (own_inT (u := u1) (a := (8192 : Int32)) (b := (8203 : Int32)) (m := 8192) (k := 8203) rfl rfl (by omega)), if_pos (own_inT (u := u1) (a := (8206 : Int32)) (b := (8303 : Int32)) (m := 8206) (k := 8303) rfl rfl (by omega)), if_pos (own_inT (u := u1) (a := (8592 : Int32)) (b := (11263 : Int32)) (m := 8592) (k := 11263) rfl rfl (by omega)), if_pos (own_inT (u := u1) (a := (12272 : Int32)) (b := (12288 : Int32)) (m := 12272) (k := 12288) rfl rfl (by omega)), if_pos (own_inT (u := u1) (a := (55296 : Int32)) (b := (63743 : Int32)) (m := 55296) (k := 63743) rfl rfl (by omega)), if_pos (own_inT (u := u1) (a := (64976 : Int32)) (b := (65007 : Int32)) (m := 64976) (k := 65007) rfl rfl (by omega)), if_pos (own_inT (u := u1) (a := (65534 : Int32)) (b := (65535 : Int32)) (m := 65534) (k := 65535) rfl rfl (by omega)), own_ref_179, if_pos rfl]
theorem own_reg_4 (u1 : Int32) (h1 : 91 ≤ u1.toInt) (h2 : u1.toInt < 95) : own_ns_0 u1 = own_ref_0 u1 := by
  rw [own_ns_0, if_pos (own_ltT (u := u1) (k := (128 : Int32)) (m := 128) rfl (by omega)), if_pos (own_ltT (u := u1) (k := (97 : Int32)) (m := 97) rfl (by omega)), own_ns_19, if_neg (own_ltF (u := u1) (k := (65 : Int32)) (m := 65) rfl (by omega)), if_pos (own_gtT (u := u1) (k := (90 : Int32)) (m := 90) rfl (by omega)), own_ns_31, if_neg (own_eqF (u := u1) (k := (95 : Int32)) (m := 95) rfl (by omega)), if_neg (own_eqF (u := u1) (k := (58 : Int32)) (m := 58) rfl (by omega))]
  rw [own_ref_0, if_neg (own_ltF (u := u1) (k := (65 : Int32)) (m := 65) rfl (by omega)), if_neg (own_gtF (u := u1) (k := (983039 : Int32)) (m := 983039) rfl (by omega)), if_neg (own_inF (u := u1) (a := (91 : Int32)) (b := (94 : Int32)) (m := 91) (k := 94) rfl rfl (by omega) (by omega)), own_ref_174, own_ref_179, if_neg (by decide)]
theorem own_reg_5 (u1 : Int32) (h1 : 95 ≤ u1.toInt) (h2 : u1.toInt < 96) : own_ns_0 u1 = own_ref_0 u1 := by
  rw [own_ns_0, if_pos (own_ltT (u := u1) (k := (128 : Int32)) (m := 128) rfl (by omega)), if_pos (own_ltT (u := u1) (k := (97 : Int32)) (m := 97) rfl (by omega)), own_ns_19, if_neg (own_ltF (u := u1) (k := (65 : Int32)) (m := 65) rfl (by omega)), if_pos (own_gtT (u := u1) (k := (90 : Int32)) (m := 90) rfl (by omega)), own_ns_31, if_pos (own_eqT (u := u1) (k := (95 : Int32)) (m := 95) rfl (by omega))]
  rw [own_ref_0, if_neg (own_ltF (u := u1) (k := (65 : Int32)) (m := 65) rfl (by omega)), if_neg (own_gtF (u := u1) (k := (983039 : Int32)) (m := 983039) rfl (by omega)), if_pos (own_inT (u := u1) (a := (91 : Int32)) (b := (94 : Int32)) (m := 91) (k := 94) rfl rfl (by omega)), if_neg (own_eqF (u := u1) (k := (96 : Int32)) (m := 96) rfl (by omega)), if_pos (own_inT (u := u1) (a := (123 : Int32)) (b := (191 : Int32)) (m := 123) (k := 191) rfl rfl (by omega)), if_neg (own_eqF (u := u1) (k := (215 : Int32)) (m := 215) rfl (by omega)), if_neg (own_eqF (u := u1) (k := (247 : Int32)) (m := 247) rfl (by omega)), if_pos (own_inT (u := u1) (a := (768 : Int32)) (b := (879 : Int32)) (m := 768) (k := 879) rfl rfl (by omega)), if_neg (own_eqF (u := u1) (k := (894 : Int32)) (m := 894) rfl (by omega)), if_pos (own_inT (u := u1) (a := (8192 : Int32)) (b := (8203 : Int32)) (m := 8192) (k := 8203) rfl rfl (by omega)), if_pos (own_inT (u := u1) (a := (8206 : Int32)) (b := (8303 : Int32)) (m := 8206) (k := 8303) rfl rfl (by omega)), if_pos (own_inT (u := u1) (a := (8592 : Int32)) (b := (11263 : Int32)) (m := 8592) (k := 11263) rfl rfl (by omega)), if_pos (own_inT (u := u1) (a := (12272 : Int32)) (b := (12288 : Int32)) (m := 12272) (k := 12288) rfl rfl (by omega)), if_pos (own_inT (u := u1) (a := (55296 : Int32)) (b := (63743 : Int32)) (m := 55296) (k := 63743) rfl rfl (by omega)), if_pos (own_inT (u := u1) (a := (64976 : Int32)) (b := (65007 : Int32)) (m := 64976) (k := 65007) rfl rfl (by omega)), if_pos (own_inT (u := u1) (a := (65534 : Int32)) (b := (65535 : Int32)) (m := 65534) (k := 65535) rfl rfl (by omega)), own_ref_179, if_pos rfl]
theorem own_reg_6 (u1 : Int32) (h1 : 96 ≤ u1.toInt) (h2 : u1.toInt < 97) : own_ns_0 u1 = own_ref_0 u1 := by
  rw [own_ns_0, if_pos (own_ltT (u := u1) (k := (128 : Int32)) (m := 128) rfl (by omega)), if_pos (own_ltT (u := u1) (k := (97 : Int32)) (m := 97) rfl (by omega)), own_ns_19, if_neg (own_ltF (u := u1) (k := (65 : Int32)) (m := 65) rfl (by omega)), if_pos (own_gtT (u := u1) (k := (90 : Int32)) (m := 90) rfl (by omega)), own_ns_31, if_neg (own_eqF (u := u1) (k := (95 : Int32)) (m := 95) rfl (by omega)), if_neg (own_eqF (u := u1) (k := (58 : Int32)) (m := 58) rfl (by omega))]
  rw [own_ref_0, if_neg (own_ltF (u := u1) (k := (65 : Int32)) (m := 65) rfl (by omega)), if_neg (own_gtF (u := u1) (k := (983039 : Int32)) (m := 983039) rfl (by omega)), if_pos (own_inT (u := u1) (a := (91 : Int32)) (b := (94 : Int32)) (m := 91) (k := 94) rfl rfl (by omega)), if_pos (own_eqT (u := u1) (k := (96 : Int32)) (m := 96) rfl (by omega)), own_ref_174, own_ref_179, if_neg (by decide)]
theorem own_reg_7 (u1 : Int32) (h1 : 97 ≤ u1.toInt) (h2 : u1.toInt < 123) : own_ns_0 u1 = own_ref_0 u1 := by
  rw [own_ns_0, if_pos (own_ltT (u := u1) (k := (128 : Int32)) (m := 128) rfl (by omega)), if_neg (own_ltF (u := u1) (k := (97 : Int32)) (m := 97) rfl (by omega)), if_neg (own_gtF (u := u1) (k := (122 : Int32)) (m := 122) rfl (by omega))]
  rw [own_ref_0, if_neg (own_ltF (u := u1) (k := (65 : Int32)) (m := 65) rfl (by omega)), if_neg (own_gtF (u := u1) (k := (983039 : Int32)) (m := 983039) rfl (by omega)), if_pos (own_inT (u := u1) (a := (91 : Int32)) (b := (94 : Int32)) (m := 91) (k := 94) rfl rfl (by omega)), if_neg (own_eqF (u := u1) (k := (96 : Int32)) (m := 96) rfl (by omega)), if_pos (own_inT (u := u1) (a := (123 : Int32)) (b := (191 : Int32)) (m := 123) (k := 191) rfl rfl (by omega)), if_neg (own_eqF (u := u1) (k := (215 : Int32)) (m := 215) rfl (by omega)), if_neg (own_eqF (u := u1) (k := (247 : Int32)) (m := 247) rfl (by omega)), if_pos (own_inT (u := u1) (a := (768 : Int32)) (b := (879 : Int32)) (m := 768) (k := 879) rfl rfl (by omega)), if_neg (own_eqF (u := u1) (k := (894 : Int32)) (m := 894) rfl (by omega)), if_pos (own_inT (u := u1) (a := (8192 : Int32)) (b := (8203 : Int32)) (m := 8192) (k := 8203) rfl rfl (by omega)), if_pos (own_inT (u := u1) (a := (8206 : Int32)) (b := (8303 : Int32)) (m := 8206) (k := 8303) rfl rfl (by omega)), if_pos (own_inT (u := u1) (a := (8592 : Int32)) (b := (11263 : Int32)) (m := 8592) (k := 11263) rfl rfl (by omega)), if_pos (own_inT (u := u1) (a := (12272 : Int32)) (b := (12288 : Int32)) (m := 12272) (k := 12288) rfl rfl (by omega)), if_pos (own_inT (u := u1) (a := (55296 : Int32)) (b := (63743 : Int32)) (m := 55296) (k := 63743) rfl rfl (by omega)), if_pos (own_inT (u := u1) (a := (64976 : Int32)) (b := (65007 : Int32)) (m := 64976) (k := 65007) rfl rfl (by omega)), if_pos (own_inT (u := u1) (a := (65534 : Int32)) (b := (65535 : Int32)) (m := 65534) (k := 65535) rfl rfl (by omega)), own_ref_179, if_pos rfl]
theorem own_reg_8 (u1 : Int32) (h1 : 123 ≤ u1.toInt) (h2 : u1.toInt < 128) : own_ns_0 u1 = own_ref_0 u1 := by
  rw [own_ns_0, if_pos (own_ltT (u := u1) (k := (128 : Int32)) (m := 128) rfl (by omega)), if_neg (own_ltF (u := u1) (k := (97 : Int32)) (m := 97) rfl (by omega)), if_pos (own_gtT (u := u1) (k := (122 : Int32)) (m := 122) rfl (by omega)), own_ns_19, if_neg (own_ltF (u := u1) (k := (65 : Int32)) (m := 65) rfl (by omega)), if_pos (own_gtT (u := u1) (k := (90 : Int32)) (m := 90) rfl (by omega)), own_ns_31, if_neg (own_eqF (u := u1) (k := (95 : Int32)) (m := 95) rfl (by omega)), if_neg (own_eqF (u := u1) (k := (58 : Int32)) (m := 58) rfl (by omega))]
  rw [own_ref_0, if_neg (own_ltF (u := u1) (k := (65 : Int32)) (m := 65) rfl (by omega)), if_neg (own_gtF (u := u1) (k := (983039 : Int32)) (m := 983039) rfl (by omega)), if_pos (own_inT (u := u1) (a := (91 : Int32)) (b := (94 : Int32)) (m := 91) (k := 94) rfl rfl (by omega)), if_neg (own_eqF (u := u1) (k := (96 : Int32)) (m := 96) rfl (by omega)), if_neg (own_inF (u := u1) (a := (123 : Int32)) (b := (191 : Int32)) (m := 123) (k := 191) rfl rfl (by omega) (by omega)), own_ref_174, own_ref_179, if_neg (by decide)]
theorem own_reg_9 (u1 : Int32) (h1 : 128 ≤ u1.toInt) (h2 : u1.toInt < 192) : own_ns_0 u1 = own_ref_0 u1 := by
  rw [own_ns_0, if_neg (own_ltF (u := u1) (k := (128 : Int32)) (m := 128) rfl (by omega)), if_pos (own_ltT (u := u1) (k := (192 : Int32)) (m := 192) rfl (by omega)), own_ns_63, if_pos (own_ltT (u := u1) (k := (216 : Int32)) (m := 216) rfl (by omega)), own_ns_77, if_pos (own_ltT (u := u1) (k := (248 : Int32)) (m := 248) rfl (by omega)), own_ns_91, if_pos (own_ltT (u := u1) (k := (880 : Int32)) (m := 880) rfl (by omega)), own_ns_105, if_pos (own_ltT (u := u1) (k := (895 : Int32)) (m := 895) rfl (by omega)), own_ns_119, if_pos (own_ltT (u := u1) (k := (8204 : Int32)) (m := 8204) rfl (by omega)), own_ns_133, if_pos (own_ltT (u := u1) (k := (8304 : Int32)) (m := 8304) rfl (by omega)), own_ns_147, if_pos (own_ltT (u := u1) (k := (11264 : Int32)) (m := 11264) rfl (by omega)), own_ns_161, if_pos (own_ltT (u := u1) (k := (12289 : Int32)) (m := 12289) rfl (by omega)), own_ns_174, if_pos (own_ltT (u := u1) (k := (63744 : Int32)) (m := 63744) rfl (by omega)), own_ns_186, if_pos (own_ltT (u := u1) (k := (65008 : Int32)) (m := 65008) rfl (by omega)), own_ns_198, if_pos (own_ltT (u := u1) (k := (65536 : Int32)) (m := 65536) rfl (by omega))]
  rw [own_ref_0, if_neg (own_ltF (u := u1) (k := (65 : Int32)) (m := 65) rfl (by omega)), if_neg (own_gtF (u := u1) (k := (983039 : Int32)) (m := 983039) rfl (by omega)), if_pos (own_inT (u := u1) (a := (91 : Int32)) (b := (94 : Int32)) (m := 91) (k := 94) rfl rfl (by omega)), if_neg (own_eqF (u := u1) (k := (96 : Int32)) (m := 96) rfl (by omega)), if_neg (own_inF (u := u1) (a := (123 : Int32)) (b := (191 : Int32)) (m := 123) (k := 191) rfl rfl (by omega) (by omega)), own_ref_174, own_ref_179, if_neg (by decide)]
theorem own_reg_10 (u1 : Int32) (h1 : 192 ≤ u1.toInt) (h2 : u1.toInt < 215) : own_ns_0 u1 = own_ref_0 u1 := by
  rw [own_ns_0, if_neg (own_ltF (u := u1) (k := (128 : Int32)) (m := 128) rfl (by omega)), if_neg (own_ltF (u := u1) (k := (192 : Int32)) (m := 192) rfl (by omega)), if_neg (own_gtF (u := u1) (k := (214 : Int32)) (m := 214) rfl (by omega))]
  rw [own_ref_0, if_neg (own_ltF (u := u1) (k := (65 : Int32)) (m := 65) rfl (by omega)), if_neg (own_gtF (u := u1) (k := (983039 : Int32)) (m := 983039) rfl (by omega)), if_pos (own_inT (u := u1) (a := (91 : Int32)) (b := (94 : Int32)) (m := 91) (k := 94) rfl rfl (by omega)), if_neg (own_eqF (u := u1) (k := (96 : Int32)) (m := 96) rfl (by omega)), if_pos (own_inT (u := u1) (a := (123 : Int32)) (b := (191 : Int32)) (m := 123) (k := 191) rfl rfl (by omega)), if_neg (own_eqF (u := u1) (k := (215 : Int32)) (m := 215) rfl (by omega)), if_neg (own_eqF (u := u1) (k := (247 : Int32)) (m := 247) rfl (by omega)), if_pos (own_inT (u := u1) (a := (768 : Int32)) (b := (879 : Int32)) (m := 768) (k := 879) rfl rfl (by omega)), if_neg (own_eqF (u := u1) (k := (894 : Int32)) (m := 894) rfl (by omega)), if_pos (own_inT (u := u1) (a := (8192 : Int32)) (b := (8203 : Int32)) (m := 8192) (k := 8203) rfl rfl (by omega)), if_pos (own_inT (u := u1) (a := (8206 : Int32)) (b := (8303 : Int32)) (m := 8206) (k := 8303) rfl rfl (by omega)), if_pos (own_inT (u := u1) (a := (8592 : Int32)) (b := (11263 : Int32)) (m := 8592) (k := 11263) rfl rfl (by omega)), if_pos (own_inT (u := u1) (a := (12272 : Int32)) (b := (12288 : Int32)) (m := 12272) (k := 12288) rfl rfl (by omega)), if_pos (own_inT (u := u1) (a := (55296 : Int32)) (b := (63743 : Int32)) (m := 55296) (k := 63743) rfl rfl (by omega)), if_pos (own_inT (u := u1) (a := (64976 : Int32)) (b := (65007 : Int32)) (m := 64976) (k := 65007) rfl rfl (by omega)), if_pos (own_inT (u := u1) (a := (65534 : Int32)) (b := (65535 : Int32)) (m := 65534) (k := 65535) rfl rfl (by omega)), own_ref_179, if_pos rfl]
theorem own_reg_11 (u1 : Int32) (h1 : 215 ≤ u1.toInt) (h2 : u1.toInt < 216) : own_ns_0 u1 = own_ref_0 u1 := by
  rw [own_ns_0, if_neg (own_ltF (u := u1) (k := (128 : Int32)) (m := 128) rfl (by omega)), if_neg (own_ltF (u := u1) (k := (192 : Int32)) (m := 192) rfl (by omega)), if_pos (own_gtT (u := u1) (k := (214 : Int32)) (m := 214) rfl (by omega)), own_ns_63, if_pos (own_ltT (u := u1) (k := (216 : Int32)) (m := 216) rfl (by omega)), own_ns_77, if_pos (own_ltT (u := u1) (k := (248 : Int32)) (m := 248) rfl (by omega)), own_ns_91, if_pos (own_ltT (u := u1) (k := (880 : Int32)) (m := 880) rfl (by omega)), own_ns_105, if_pos (own_ltT (u := u1) (k := (895 : Int32)) (m := 895) rfl (by omega)), own_ns_119, if_pos (own_ltT (u := u1) (k := (8204 : Int32)) (m := 8204) rfl (by omega)), own_ns_133, if_pos (own_ltT (u := u1) (k := (8304 : Int32)) (m := 8304) rfl (by omega)), own_ns_147, if_pos (own_ltT (u := u1) (k := (11264 : Int32)) (m := 11264) rfl (by omega)), own_ns_161, if_pos (own_ltT (u := u1) (k := (12289 : Int32)) (m := 12289) rfl (by omega)), own_ns_174, if_pos (own_ltT (u := u1) (k := (63744 : Int32)) (m := 63744) rfl (by omega)), own_ns_186, if_pos (own_ltT (u := u1) (k := (65008 : Int32)) (m := 65008) rfl (by omega)), own_ns_198, if_pos (own_ltT (u := u1) (k := (65536 : Int32)) (m := 65536) rfl (by omega))]
  rw [own_ref_0, if_neg (own_ltF (u := u1) (k := (65 : Int32)) (m := 65) rfl (by omega)), if_neg (own_gtF (u := u1) (k := (983039 : Int32)) (m := 983039) rfl (by omega)), if_pos (own_inT (u := u1) (a := (91 : Int32)) (b := (94 : Int32)) (m := 91) (k := 94) rfl rfl (by omega)), if_neg (own_eqF (u := u1) (k := (96 : Int32)) (m := 96) rfl (by omega)), if_pos (own_inT (u := u1) (a := (123 : Int32)) (b := (191 : Int32)) (m := 123) (k := 191) rfl rfl (by omega)), if_pos (own_eqT (u := u1) (k := (215 : Int32)) (m := 215) rfl (by omega)), own_ref_174, own_ref_179, if_neg (by decide)]
theorem own_reg_12 (u1 : Int32) (h1 : 216 ≤ u1.toInt) (h2 : u1.toInt < 247) : own_ns_0 u1 = own_ref_0 u1 := by
  rw [own_ns_0, if_neg (own_ltF (u := u1) (k := (128 : Int32)) (m := 128) rfl (by omega)), if_neg (own_ltF (u := u1) (k := (192 : Int32)) (m := 192) rfl (by omega)), if_pos (own_gtT (u := u1) (k := (214 : Int32)) (m := 214) rfl (by omega)), own_ns_63, if_neg (own_ltF (u := u1) (k := (216 : Int32)) (m := 216) rfl (by omega)), if_neg (own_gtF (u := u1) (k := (246 : Int32)) (m := 246) rfl (by omega))]
  rw [own_ref_0, if_neg (own_ltF (u := u1) (k := (65 : Int32)) (m := 65) rfl (by omega)), if_neg (own_gtF (u := u1) (k := (983039 : Int32)) (m := 983039) rfl (by omega)), if_pos (own_inT (u := u1) (a := (91 : Int32)) (b := (94 : Int32)) (m := 91) (k := 94) rfl rfl (by omega)), if_neg (own_eqF (u := u1) (k := (96 : Int32)) (m := 96) rfl (by omega)), if_pos (own_inT (u := u1) (a := (123 : Int32)) (b := (191 : Int32)) (m := 123) (k := 191) rfl rfl (by omega)), if_neg (own_eqF (u := u1) (k := (215 : Int32)) (m := 215) rfl (by omega)), if_neg (own_eqF (u := u1) (k := (247 : Int32)) (m := 247) rfl (by omega)), if_pos (own_inT (u := u1) (a := (768 : Int32)) (b := (879 : Int32)) (m := 768) (k := 879) rfl rfl (by omega)), if_neg (own_eqF (u := u1) (k := (894 : Int32)) (m := 894) rfl (by omega)), if_pos (own_inT (u := u1) (a := (8192 : Int32)) (b := (8203 : Int32)) (m := 8192) (k := 8203) rfl rfl (by omega)), if_pos (own_inT (u := u1) (a := (8206 : Int32)) (b := (8303 : Int32)) (m := 8206) (k := 8303) rfl rfl (by omega)), if_pos (own_inT (u := u1) (a := (8592 : Int32)) (b := (11263 : Int32)) (m := 8592) (k := 11263) rfl rfl (by omega)), if_pos (own_inT (u := u1) (a := (12272 : Int32)) (b := (12288 : Int32)) (m := 12272) (k := 12288) rfl rfl (by omega)), if_pos (own_inT (u := u1) (a := (55296 : Int32)) (b := (63743 : Int32)) (m := 55296) (k := 63743) rfl rfl (by omega)), if_pos (own_inT (u := u1) (a := (64976 : Int32)) (b := (65007 : Int32)) (m := 64976) (k := 65007) rfl rfl (by omega)), if_pos (own_inT (u := u1) (a := (65534 : Int32)) (b := (65535 : Int32)) (m := 65534) (k := 65535) rfl rfl (by omega)), own_ref_179, if_pos rfl]
theorem own_reg_13 (u1 : Int32) (h1 : 247 ≤ u1.toInt) (h2 : u1.toInt < 248) : own_ns_0 u1 = own_ref_0 u1 := by
  rw [own_ns_0, if_neg (own_ltF (u := u1) (k := (128 : Int32)) (m := 128) rfl (by omega)), if_neg (own_ltF (u := u1) (k := (192 : Int32)) (m := 192) rfl (by omega)), if_pos (own_gtT (u := u1) (k := (214 : Int32)) (m := 214) rfl (by omega)), own_ns_63, if_neg (own_ltF (u := u1) (k := (216 : Int32)) (m := 216) rfl (by omega)), if_pos (own_gtT (u := u1) (k := (246 : Int32)) (m := 246) rfl (by omega)), own_ns_77, if_pos (own_ltT (u := u1) (k := (248 : Int32)) (m := 248) rfl (by omega)), own_ns_91, if_pos (own_ltT (u := u1) (k := (880 : Int32)) (m := 880) rfl (by omega)), own_ns_105, if_pos (own_ltT (u := u1) (k := (895 : Int32)) (m := 895) rfl (by omega)), own_ns_119, if_pos (own_ltT (u := u1) (k := (8204 : Int32)) (m := 8204) rfl (by omega)), own_ns_133, if_pos (own_ltT (u := u1) (k := (8304 : Int32)) (m := 8304) rfl (by omega)), own_ns_147, if_pos (own_ltT (u := u1) (k := (11264 : Int32)) (m := 11264) rfl (by omega)), own_ns_161, if_pos (own_ltT (u := u1) (k := (12289 : Int32)) (m := 12289) rfl (by omega)), own_ns_174, if_pos (own_ltT (u := u1) (k := (63744 : Int32)) (m := 63744) rfl (by omega)), own_ns_186, if_pos (own_ltT (u := u1) (k := (65008 : Int32)) (m := 65008) rfl (by omega)), own_ns_198, if_pos (own_ltT (u := u1) (k := (65536 : Int32)) (m := 65536) rfl (by omega))]
  rw [own_ref_0, if_neg (own_ltF (u := u1) (k := (65 : Int32)) (m := 65) rfl (by omega)), if_neg (own_gtF (u := u1) (k := (983039 : Int32)) (m := 983039) rfl (by omega)), if_pos (own_inT (u := u1) (a := (91 : Int32)) (b := (94 : Int32)) (m := 91) (k := 94) rfl rfl (by omega)), if_neg (own_eqF (u := u1) (k := (96 : Int32)) (m := 96) rfl (by omega)), if_pos (own_inT (u := u1) (a := (123 : Int32)) (b := (191 : Int32)) (m := 123) (k := 191) rfl rfl (by omega)), if_neg (own_eqF (u := u1) (k := (215 : Int32)) (m := 215) rfl (by omega)), if_pos (own_eqT (u := u1) (k := (247 : Int32)) (m := 247) rfl (by omega)), own_ref_174, own_ref_179, if_neg (by decide)]
theorem own_reg_14 (u1 : Int32) (h1 : 248 ≤ u1.toInt) (h2 : u1.toInt < 768) : own_ns_0 u1 = own_ref_0 u1 := by
  rw [own_ns_0, if_neg (own_ltF (u := u1) (k := (128 : Int32)) (m := 128) rfl (by omega)), if_neg (own_ltF (u := u1) (k := (192 : Int32)) (m := 192) rfl (by omega)), if_pos (own_gtT (u := u1) (k := (214 : Int32)) (m := 214) rfl (by omega)), own_ns_63, if_neg (own_ltF (u := u1) (k := (216 : Int32)) (m := 216) rfl (by omega)), if_pos (own_gtT (u := u1) (k := (246 : Int32)) (m := 246) rfl (by omega)), own_ns_77, if_neg (own_ltF (u := u1) (k := (248 : Int32)) (m := 248) rfl (by omega)), if_neg (own_gtF (u := u1) (k := (767 : Int32)) (m := 767) rfl (by omega))]
  rw [own_ref_0, if_neg (own_ltF (u := u1) (k := (65 : Int32)) (m := 65) rfl (by omega)), if_neg (own_gtF (u := u1) (k := (983039 : Int32)) (m := 983039) rfl (by omega)), if_pos (own_inT (u := u1) (a := (91 : Int32)) (b := (94 : Int32)) (m := 91) (k := 94) rfl rfl (by omega)), if_neg (own_eqF (u := u1) (k := (96 : Int32)) (m := 96) rfl (by omega)), if_pos (own_inT (u := u1) (a := (123 : Int32)) (b := (191 : Int32)) (m := 123) (k := 191) rfl rfl (by omega)), if_neg (own_eqF (u := u1) (k := (215 : Int32)) (m := 215) rfl (by omega)), if_neg (own_eqF (u := u1) (k := (247 : Int32)) (m := 247) rfl (by omega)), if_pos (own_inT (u := u1) (a := (768 : Int32)) (b := (879 : Int32)) (m := 768) (k := 879) rfl rfl (by omega)), if_neg (own_eqF (u := u1) (k := (894 : Int32)) (m := 894) rfl (by omega)), if_pos (own_inT (u := u1) (a := (8192 : Int32)) (b := (8203 : Int32)) (m := 8192) (k := 8203) rfl rfl (by omega)), if_pos (own_inT (u := u1) (a := (8206 : Int32)) (b := (8303 : Int32)) (m := 8206) (k := 8303) rfl rfl (by omega)), if_pos (own_inT (u := u1) (a := (8592 : Int32)) (b := (11263 : Int32)) (m := 8592) (k := 11263) rfl rfl (by omega)), if_pos (own_inT (u := u1) (a := (12272 : Int32)) (b := (12288 : Int32)) (m := 12272) (k := 12288) rfl rfl (by omega)), if_pos (own_inT (u := u1) (a := (55296 : Int32)) (b := (63743 : Int32)) (m := 55296) (k := 63743) rfl rfl (by omega)), if_pos (own_inT (u := u1) (a := (64976 : Int32)) (b := (65007 : Int32)) (m := 64976) (k := 65007) rfl rfl (by omega)), if_pos (own_inT (u := u1) (a := (65534 : Int32)) (b := (65535 : Int32)) (m := 65534) (k := 65535) rfl rfl (by omega)), own_ref_179, if_pos rfl]
theorem own_reg_15 (u1 : Int32) (h1 : 768 ≤ u1.toInt) (h2 : u1.toInt < 880) : own_ns_0 u1 = own_ref_0 u1 := by
  rw [own_ns_0, if_neg (own_ltF (u := u1) (k := (128 : Int32)) (m := 128) rfl (by omega)), if_neg (own_ltF (u := u1) (k := (192 : Int32)) (m := 192) rfl (by omega)), if_pos (own_gtT (u := u1) (k := (214 : Int32)) (m := 214) rfl (by omega)), own_ns_63, if_neg (own_ltF (u := u1) (k := (216 : Int32)) (m := 216) rfl (by omega)), if_pos (own_gtT (u := u1) (k := (246 : Int32)) (m := 246) rfl (by omega)), own_ns_77, if_neg (own_ltF (u := u1) (k := (248 : Int32)) (m := 248) rfl (by omega)), if_pos (own_gtT (u := u1) (k := (767 : Int32)) (m := 767) rfl (by omega)), own_ns_91, if_pos (own_ltT (u := u1) (k := (880 : Int32)) (m := 880) rfl (by omega)), own_ns_105, if_pos (own_ltT (u := u1) (k := (895 : Int32)) (m := 895) rfl (by omega)), own_ns_119, if_pos (own_ltT (u := u1) (k := (8204 : Int32)) (m := 8204) rfl (by omega)), own_ns_133, if_pos (own_ltT (u := u1) (k := (8304 : Int32)) (m := 8304) rfl (by omega)), own_ns_147, if_pos (own_ltT (u := u1) (k := (11264 : Int32)) (m := 11264) rfl (by omega)), own_ns_161, if_pos (own_ltT (u := u1) (k := (12289 : Int32)) (m := 12289) rfl (by omega)), own_ns_174, if_pos (own_ltT (u := u1) (k := (63744 : Int32)) (m := 63744) rfl (by omega)), own_ns_186, if_pos (own_ltT (u := u1) (k := (65008 : Int32)) (m := 65008) rfl (by omega)), own_ns_198, if_pos (own_ltT (u := u1) (k := (65536 : Int32)) (m := 65536) rfl (by omega))]
  rw [own_ref_0, if_neg (own_ltF (u := u1) (k := (65 : Int32)) (m := 65) rfl (by omega)), if_neg (own_gtF (u := u1) (k := (983039 : Int32)) (m := 983039) rfl (by omega)), if_pos (own_inT (u := u1) (a := (91 : Int32)) (b := (94 : Int32)) (m := 91) (k := 94) rfl rfl (by omega)), if_neg (own_eqF (u := u1) (k := (96 : Int32)) (m := 96) rfl (by omega)), if_pos (own_inT (u := u1) (a := (123 : Int32)) (b := (191 : Int32)) (m := 123) (k := 191) rfl rfl (by omega)), if_neg (own_eqF (u := u1) (k := (215 : Int32)) (m := 215) rfl (by omega)), if_neg (own_eqF (u := u1) (k := (247 : Int32)) (m := 247) rfl (by omega)), if_neg (own_inF (u := u1) (a := (768 : Int32)) (b := (879 : Int32)) (m := 768) (k := 879) rfl rfl (by omega) (by omega)), own_ref_174, own_ref_179, if_neg (by decide)]
theorem own_reg_16 (u1 : Int32) (h1 : 880 ≤ u1.toInt) (h2 : u1.toInt < 894) : own_ns_0 u1 = own_ref_0 u1 := by
  rw [own_ns_0, if_neg (own_ltF (u := u1) (k := (128 : Int32)) (m := 128) rfl (by omega)), if_neg (own_ltF (u := u1) (k := (192 : Int32)) (m := 192) rfl (by omega)), if_pos (own_gtT (u := u1) (k := (214 : Int32)) (m := 214) rfl (by omega)), own_ns_63, if_neg (own_ltF (u := u1) (k := (216 : Int32)) (m := 216) rfl (by omega)), if_pos (own_gtT (u := u1) (k := (246 : Int32)) (m := 246) rfl (by omega)), own_ns_77, if_neg (own_ltF (u := u1) (k := (248 : Int32)) (m := 248) rfl (by omega)), if_pos (own_gtT (u := u1) (k := (767 : Int32)) (m := 767) rfl (by omega)), own_ns_91, if_neg (own_ltF (u := u1) (k := (880 : Int32)) (m := 880) rfl (by omega)), if_neg (own_gtF (u := u1) (k := (893 : Int32)) (m := 893) rfl (by omega))]
  rw [own_ref_0, if_neg (own_ltF (u := u1) (k := (65 : Int32)) (m := 65) rfl (by omega)), if_neg (own_gtF (u := u1) (k := (983039 : Int32)) (m := 983039) rfl (by omega)), if_pos (own_inT (u := u1) (a := (91 : Int32)) (b := (94 : Int32)) (m := 91) (k := 94) rfl rfl (by omega)), if_neg (own_eqF (u := u1) (k := (96 : Int32)) (m := 96) rfl (by omega)), if_pos (own_inT (u := u1) (a := (123 : Int32)) (b := (191 : Int32)) (m := 123) (k := 191) rfl rfl (by omega)), if_neg (own_eqF (u := u1) (k := (215 : Int32)) (m := 215) rfl (by omega)), if_neg (own_eqF (u := u1) (k := (247 : Int32)) (m := 247) rfl (by omega)), if_pos (own_inT (u := u1) (a := (768 : Int32)) (b := (879 : Int32)) (m := 768) (k := 879) rfl rfl (by omega)), if_neg (own_eqF (u := u1) (k := (894 : Int32)) (m := 894) rfl (by omega)), if_pos (own_inT (u := u1) (a := (8192 : Int32)) (b := (8203 : Int32)) (m := 8192) (k := 8203) rfl rfl (by omega)), if_pos (own_inT (u := u1) (a := (8206 : Int32)) (b := (8303 : Int32)) (m := 8206) (k := 8303) rfl rfl (by omega)), if_pos (own_inT (u := u1) (a := (8592 : Int32)) (b := (11263 : Int32)) (m := 8592) (k := 11263) rfl rfl (by omega)), if_pos (own_inT (u := u1) (a := (12272 : Int32)) (b := (12288 : Int32)) (m := 12272) (k := 12288) rfl rfl (by omega)), if_pos (own_inT (u := u1) (a := (55296 : Int32)) (b := (63743 : Int32)) (m := 55296) (k := 63743) rfl rfl (by omega)), if_pos (own_inT (u := u1) (a := (64976 : Int32)) (b := (65007 : Int32)) (m := 64976) (k := 65007) rfl rfl (by omega)), if_pos (own_inT (u := u1) (a := (65534 : Int32)) (b := (65535 : Int32)) (m := 65534) (k := 65535) rfl rfl (by omega)), own_ref_179, if_pos rfl]
theorem own_reg_17 (u1 : Int32) (h1 : 894 ≤ u1.toInt) (h2 : u1.toInt < 895) : own_ns_0 u1 = own_ref_0 u1 := by
  rw [own_ns_0, if_neg (own_ltF (u := u1) (k := (128 : Int32)) (m := 128) rfl (by omega)), if_neg (own_ltF (u := u1) (k := (192 : Int32)) (m := 192) rfl (by omega)), if_pos (own_gtT (u := u1) (k := (214 : Int32)) (m := 214) rfl (by omega)), own_ns_63, if_neg (own_ltF (u := u1) (k := (216 : Int32)) (m := 216) rfl (by omega)), if_pos (own_gtT (u := u1) (k := (246 : Int32)) (m := 246) rfl (by omega)), own_ns_77, if_neg (own_ltF (u := u1) (k := (248 : Int32)) (m := 248) rfl (by omega)), if_pos (own_gtT (u := u1) (k := (767 : Int32)) (m := 767) rfl (by omega)), own_ns_91, if_neg (own_ltF (u := u1) (k := (880 : Int32)) (m := 880) rfl (by omega)), if_pos (own_gtT (u := u1) (k := (893 : Int32)) (m := 893) rfl (by omega)), own_ns_105, if_pos (own_ltT (u := u1) (k := (895 : Int32)) (m := 895) rfl (by omega)), own_ns_119, if_pos (own_ltT (u := u1) (k := (8204 : Int32)) (m := 8204) rfl (by omega)), own_ns_133, if_pos (own_ltT (u := u1) (k := (8304 : Int32)) (m := 8304) rfl (by omega)), own_ns_147, if_pos (own_ltT (u := u1) (k := (11264 : Int32)) (m := 11264) rfl (by omega)), own_ns_161, if_pos (own_ltT (u := u1) (k := (12289 : Int32)) (m := 12289) rfl (by omega)), own_ns_174, if_pos (own_ltT (u := u1) (k := (63744 : Int32)) (m := 63744) rfl (by omega)), own_ns_186, if_pos (own_ltT (u := u1) (k := (65008 : Int32)) (m := 65008) rfl (by omega)), own_ns_198, if_pos (own_ltT (u := u1) (k := (65536 : Int32)) (m := 65536) rfl (by omega))]
  rw [own_ref_0, if_neg (own_ltF (u := u1) (k := (65 : Int32)) (m := 65) rfl (by omega)), if_neg (own_gtF (u := u1) (k := (983039 : Int32)) (m := 983039) rfl (by omega)), if_pos (own_inT (u := u1) (a := (91 : Int32)) (b := (94 : Int32)) (m := 91) (k := 94) rfl rfl (by omega)), if_neg (own_eqF (u := u1) (k := (96 : Int32)) (m := 96) rfl (by omega)), if_pos (own_inT (u := u1) (a := (123 : Int32)) (b := (191 : Int32)) (m := 123) (k := 191) rfl rfl (by omega)), if_neg (own_eqF (u := u1) (k := (215 : Int32)) (m := 215) rfl (by omega)), if_neg (own_eqF (u := u1) (k := (247 : Int32)) (m := 247) rfl (by omega)), if_pos (own_inT (u := u1) (a := (768 : Int32)) (b := (879 : Int32)) (m := 768) (k := 879) rfl rfl (by omega)), if_pos (own_eqT (u := u1) (k := (894 : Int32)) (m := 894) rfl (by omega)), own_ref_174, own_ref_179, if_neg (by decide)]
theorem own_reg_18 (u1 : Int32) (h1 : 895 ≤ u1.toInt) (h2 : u1.toInt < 8192) : own_ns_0 u1 = own_ref_0 u1 := by
  rw [own_ns_0, if_neg (own_ltF (u := u1) (k := (128 : Int32)) (m := 128) rfl (by omega)), if_neg (own_ltF (u := u1) (k := (192 : Int32)) (m := 192) rfl (by omega)), if_pos (own_gtT (u := u1) (k := (214 : Int32)) (m := 214) rfl (by omega)), own_ns_63, if_neg (own_ltF (u := u1) (k := (216 : Int32)) (m := 216) rfl (by omega)), if_pos (own_gtT (u := u1) (k := (246 : Int32)) (m := 246) rfl (by omega)), own_ns_77, if_neg (own_ltF (u := u1) (k := (248 : Int32)) (m := 248) rfl (by omega)), if_pos (own_gtT (u := u1) (k := (767 : Int32)) (m := 767) rfl (by omega)), own_ns_91, if_neg (own_ltF (u := u1) (k := (880 : Int32)) (m := 880) rfl (by omega)), if_pos (own_gtT (u := u1) (k := (893 : Int32)) (m := 893) rfl (by omega)), own_ns_105, if_neg (own_ltF (u := u1) (k := (895 : Int32)) (m := 895) rfl (by omega)), if_neg (own_gtF (u := u1) (k := (8191 : Int32)) (m := 8191) rfl (by omega))]
  rw [own_ref_0, if_neg (own_ltF (u := u1) (k := (65 : Int32)) (m := 65) rfl (by omega)), if_neg (own_gtF (u := u1) (k := (983039 : Int32)) (m := 983039) rfl (by omega)), if_pos (own_inT (u := u1) (a := (91 : Int32)) (b := (94 : Int32)) (m := 91) (k := 94) rfl rfl (by omega)), if_neg (own_eqF (u := u1) (k := (96 : Int32)) (m := 96) rfl (by omega)), if_pos (own_inT (u := u1) (a := (123 : Int32)) (b := (191 : Int32)) (m := 123) (k := 191) rfl rfl (by omega)), if_neg (own_eqF (u := u1) (k := (215 : Int32)) (m := 215) rfl (by omega)), if_neg (own_eqF (u := u1) (k := (247 : Int32)) (m := 247) rfl (by omega)), if_pos (own_inT (u := u1) (a := (768 : Int32)) (b := (879 : Int32)) (m := 768) (k := 879) rfl rfl (by omega)), if_neg (own_eqF (u := u1) (k := (894 : Int32)) (m := 894) rfl (by omega)), if_pos (own_inT (u := u1) (a := (8192 : Int32)) (b := (8203 : Int32)) (m := 8192) (k := 8203) rfl rfl (by omega)), if_pos (own_inT (u := u1) (a := (8206 : Int32)) (b := (8303 : Int32)) (m := 8206) (k := 8303) rfl rfl (by omega)), if_pos (own_inT (u := u1) (a := (8592 : Int32)) (b := (11263 : Int32)) (m := 8592) (k := 11263) rfl rfl (by omega)), if_pos (own_inT (u := u1) (a := (12272 : Int32)) (b := (12288 : Int32)) (m := 12272) (k := 12288) rfl rfl (by omega)), if_pos (own_inT (u := u1) (a := (55296 : Int32)) (b := (63743 : Int32)) (m := 55296) (k := 63743) rfl rfl (by omega)), if_pos (own_inT (u := u1) (a := (64976 : Int32)) (b := (65007 : Int32)) (m := 64976) (k := 65007) rfl rfl (by omega)), if_pos (own_inT (u := u1) (a := (65534 : Int32)) (b := (65535 : Int32)) (m := 65534) (k := 65535) rfl rfl (by omega)), own_ref_179, if_pos rfl]
theorem own_reg_19 (u1 : Int32) (h1 : 8192 ≤ u1.toInt) (h2 : u1.toInt < 8204) : own_ns_0 u1 = own_ref_0 u1 := by
  rw [own_ns_0, if_neg (own_ltF (u := u1) (k := (128 : Int32)) (m := 128) rfl (by omega)), if_neg (own_ltF (u := u1) (k := (192 : Int32)) (m := 192) rfl (by omega)), if_pos (own_gtT (u := u1) (k := (214 : Int32)) (m := 214) rfl (by omega)), own_ns_63, if_neg (own_ltF (u := u1) (k := (216 : Int32)) (m := 216) rfl (by omega)), if_pos (own_gtT (u := u1) (k := (246 : Int32)) (m := 246) rfl (by omega)), own_ns_77, if_neg (own_ltF (u := u1) (k := (248 : Int32)) (m := 248) rfl (by omega)), if_pos (own_gtT (u := u1) (k := (767 : Int32)) (m := 767) rfl (by omega)), own_ns_91, if_neg (own_ltF (u := u1) (k := (880 : Int32)) (m := 880) rfl (by omega)), if_pos (own_gtT (u := u1) (k := (893 : Int32)) (m := 893) rfl (by omega)), own_ns_105, if_neg (own_ltF (u := u1) (k := (895 : Int32)) (m := 895) rfl (by omega)), if_pos (own_gtT (u := u1) (k := (8191 : Int32)) (m := 8191) rfl (by omega)), own_ns_119, if_pos (own_ltT (u := u1) (k := (8204 : Int32)) (m := 8204) rfl (by omega)), own_ns_133, if_pos (own_ltT (u := u1) (k := (8304 : Int32)) (m := 8304) rfl (by omega)), own_ns_147, if_pos (own_ltT (u := u1) (k := (11264 : Int32)) (m := 11264) rfl (by omega)), own_ns_161, if_pos (own_ltT (u := u1) (k := (12289 : Int32)) (m := 12289) rfl (by omega)), own_ns_174, if_pos (own_ltT (u := u1) (k := (63744 : Int32)) (m := 63744) rfl (by omega)), own_ns_186, if_pos (own_ltT (u := u1) (k := (65008 : Int32)) (m := 65008) rfl (by omega)), own_ns_198, if_pos (own_ltT (u := u1) (k := (65536 : Int32)) (m := 65536) rfl (by omega))]
  rw [own_ref_0, if_neg (own_ltF (u := u1) (k := (65 : Int32)) (m := 65) rfl (by omega)), if_neg (own_gtF (u := u1) (k := (983039 : Int32)) (m := 983039) rfl (by omega)), if_pos (own_inT (u := u1) (a := (91 : Int32)) (b := (94 : Int32)) (m := 91) (k := 94) rfl rfl (by omega)), if_neg (own_eqF (u := u1) (k := (96 : Int32)) (m := 96) rfl (by omega)), if_pos (own_inT (u := u1) (a := (123 : Int32)) (b := (191 : Int32)) (m := 123) (k := 191) rfl rfl (by omega)), if_neg (own_eqF (u := u1) (k := (215 : Int32)) (m := 215) rfl (by omega)), if_neg (own_eqF (u := u1) (k := (247 : Int32)) (m := 247) rfl (by omega)), if_pos (own_inT (u := u1) (a := (768 : Int32)) (b := (879 : Int32)) (m := 768) (k := 879) rfl rfl (by omega)), if_neg (own_eqF (u := u1) (k := (894 : Int32)) (m := 894) rfl (by omega)), if_neg (own_inF (u := u1) (a := (8192 : Int32)) (b := (8203 : Int32)) (m := 8192) (k := 8203) rfl rfl (by omega) (by omega)), own_ref_174, own_ref_179, if_neg (by decide)]
theorem own_reg_20 (u1 : Int32) (h1 : 8204 ≤ u1.toInt) (h2 : u1.toInt < 8206) : own_ns_0 u1 = own_ref_0 u1 := by
  rw [own_ns_0, if_neg (own_ltF (u := u1) (k := (128 : Int32)) (m := 128) rfl (by omega)), if_neg (own_ltF (u := u1) (k := (192 : Int32)) (m := 192) rfl (by omega)), if_pos (own_gtT (u := u1) (k := (214 : Int32)) (m := 214) rfl (by omega)), own_ns_63, if_neg (own_ltF (u := u1) (k := (216 : Int32)) (m := 216) rfl (by omega)), if_pos (own_gtT (u := u1) (k := (246 : Int32)) (m := 246) rfl (by omega)), own_ns_77, if_neg (own_ltF (u := u1) (k := (248 : Int32)) (m := 248) rfl (by omega)), if_pos (own_gtT (u := u1) (k := (767 : Int32)) (m := 767) rfl (by omega)), own_ns_91, if_neg (own_ltF (u := u1) (k := (880 : Int32)) (m := 880) rfl (by omega)), if_pos (own_gtT (u := u1) (k := (893 : Int32)) (m := 893) rfl (by omega)), own_ns_105, if_neg (own_ltF (u := u1) (k := (895 : Int32)) (m := 895) rfl (by omega)), if_pos (own_gtT (u := u1) (k := (8191 : Int32)) (m := 8191) rfl (by omega)), own_ns_119, if_neg (own_ltF (u := u1) (k := (8204 : Int32)) (m := 8204) rfl (by omega)), if_neg (own_gtF (u := u1) (k := (8205 : Int32)) (m := 8205) rfl (by omega))]
  rw [own_ref_0, if_neg (own_ltF (u := u1) (k := (65 : Int32)) (m := 65) rfl (by omega)), if_neg (own_gtF (u := u1) (k := (983039 : Int32)) (m := 983039) rfl (by omega)), if_pos (own_inT (u := u1) (a := (91 : Int32)) (b := (94 : Int32)) (m := 91) (k := 94) rfl rfl (by omega)), if_neg (own_eqF (u := u1) (k := (96 : Int32)) (m := 96) rfl (by omega)), if_pos (own_inT (u := u1) (a := (123 : Int32)) (b := (191 : Int32)) (m := 123) (k := 191) rfl rfl (by omega)), if_neg (own_eqF (u := u1) (k := (215 : Int32)) (m := 215) rfl (by omega)), if_neg (own_eqF (u := u1) (k := (247 : Int32)) (m := 247) rfl (by omega)), if_pos (own_inT (u := u1) (a := (768 : Int32)) (b := (879 : Int32)) (m := 768) (k := 879) rfl rfl (by omega)), if_neg (own_eqF (u := u1) (k := (894 : Int32)) (m := 894) rfl (by omega)), if_pos (own_inT (u := u1) (a := (8192 : Int32)) (b := (8203 : Int32)) (m := 8192) (k := 8203) rfl rfl (by omega)), if_pos (own_inT (u := u1) (a := (8206 : Int32)) (b := (8303 : Int32)) (m := 8206) (k := 8303) rfl rfl (by omega)), if_pos (own_inT (u := u1) (a := (8592 : Int32)) (b := (11263 : Int32)) (m := 8592) (k := 11263) rfl rfl (by omega)), if_pos (own_inT (u := u1) (a := (12272 : Int32)) (b := (12288 : Int32)) (m := 12272) (k := 12288) rfl rfl (by omega)), if_pos (own_inT (u := u1) (a := (55296 : Int32)) (b := (63743 : Int32)) (m := 55296) (k := 63743) rfl rfl (by omega)), if_pos (own_inT (u := u1) (a := (64976 : Int32)) (b := (65007 : Int32)) (m := 64976) (k := 65007) rfl rfl (by omega)), if_pos (own_inT (u := u1) (a := (65534 : Int32)) (b := (65535 : Int32)) (m := 65534) (k := 65535) rfl rfl (by omega)), own_ref_179, if_pos rfl]
theorem own_reg_21 (u1 : Int32) (h1 : 8206 ≤ u1.toInt) (h2 : u1.toInt < 8304) : own_ns_0 u1 = own_ref_0 u1 := by
  rw [own_ns_0, if_neg (own_ltF (u := u1) (k := (128 : Int32)) (m := 128) rfl (by omega)), if_neg (own_ltF (u := u1) (k := (192 : Int32)) (m := 192) rfl (by omega)), if_pos (own_gtT (u := u1) (k := (214 : Int32)) (m := 214) rfl (by omega)), own_ns_63, if_neg (own_ltF (u := u1) (k := (216 : Int32)) (m := 216) rfl (by omega)), if_pos (own_gtT (u := u1) (k := (246 : Int32)) (m := 246) rfl (by omega)), own_ns_77, if_neg (own_ltF (u := u1) (k := (248 : Int32)) (m := 248) rfl (by omega)), if_pos (own_gtT (u := u1) (k := (767 : Int32)) (m := 767) rfl (by omega)), own_ns_91, if_neg (own_ltF (u := u1) (k := (880 : Int32)) (m := 880) rfl (by omega)), if_pos (own_gtT (u := u1) (k := (893 : Int32)) (m := 893) rfl (by omega)), own_ns_105, if_neg (own_ltF (u := u1) (k := (895 : Int32)) (m := 895) rfl (by omega)), if_pos (own_gtT (u := u1) (k := (8191 : Int32)) (m := 8191) rfl (by omega)), own_ns_119, if_neg (own_ltF (u := u1) (k := (8204 : Int32)) (m := 8204) rfl (by omega)), if_pos (own_gtT (u := u1) (k := (8205 : Int32)) (m := 8205) rfl (by omega)), own_ns_133, if_pos (own_ltT (u := u1) (k := (8304 : Int32)) (m := 8304) rfl (by omega)), own_ns_147, if_pos (own_ltT (u := u1) (k := (11264 : Int32)) (m := 11264) rfl (by omega)), own_ns_161, if_pos (own_ltT (u := u1) (k := (12289 : Int32)) (m := 12289) rfl (by omega)), own_ns_174, if_pos (own_ltT (u := u1) (k := (63744 : Int32)) (m := 63744) rfl (by omega)), own_ns_186, if_pos (own_ltT (u := u1) (k := (65008 : Int32)) (m := 65008) rfl (by omega)), own_ns_198, if_pos (own_ltT (u := u1) (k := (65536 : Int32)) (m := 65536) rfl (by omega))]
  rw [own_ref_0, if_neg (own_ltF (u := u1) (k := (65 : Int32)) (m := 65) rfl (by omega)), if_neg (own_gtF (u := u1) (k := (983039 : Int32)) (m := 983039) rfl (by omega)), if_pos (own_inT (u := u1) (a := (91 : Int32)) (b := (94 : Int32)) (m := 91) (k := 94) rfl rfl (by omega)), if_neg (own_eqF (u := u1) (k := (96 : Int32)) (m := 96) rfl (by omega)), if_pos (own_inT (u := u1) (a := (123 : Int32)) (b := (191 : Int32)) (m := 123) (k := 191) rfl rfl (by omega)), if_neg (own_eqF (u := u1) (k := (215 : Int32)) (m := 215) rfl (by omega)), if_neg (own_eqF (u := u1) (k := (247 : Int32)) (m := 247) rfl (by omega)), if_pos (own_inT (u := u1) (a := (768 : Int32)) (b := (879 : Int32)) (m := 768) (k := 879) rfl rfl (by omega)), if_neg (own_eqF (u := u1) (k := (894 : Int32)) (m := 894) rfl (by omega)), if_pos (own_inT (u := u1) (a := (8192 : Int32)) (b := (8203 : Int32)) (m := 8192) (k := 8203) rfl rfl (by omega)), if_neg (own_inF (u := u1) (a := (8206 : Int32)) (b := (8303 : Int32)) (m := 8206) (k := 8303) rfl rfl (by omega) (by omega)), own_ref_174, own_ref_179, if_neg (by decide)]
theorem own_reg_22 (u1 : Int32) (h1 : 8304 ≤ u1.toInt) (h2 : u1.toInt < 8592) : own_ns_0 u1 = own_ref_0 u1 := by
  rw [own_ns_0, if_neg (own_ltF (u := u1) (k := (128 : Int32)) (m := 128) rfl (by omega)), if_neg (own_ltF (u := u1) (k := (192 : Int32)) (m := 192) rfl (by omega)), if_pos (own_gtT (u := u1) (k := (214 : Int32)) (m := 214) rfl (by omega)), own_ns_63, if_neg (own_ltF (u := u1) (k := (216 : Int32)) (m := 216) rfl (by omega)), if_pos (own_gtT (u := u1) (k := (246 : Int32)) (m := 246) rfl (by omega)), own_ns_77, if_neg (own_ltF (u := u1) (k := (248 : Int32)) (m := 248) rfl (by omega)), if_pos (own_gtT (u := u1) (k := (767 : Int32)) (m := 767) rfl (by omega)), own_ns_91, if_neg (own_ltF (u := u1) (k := (880 : Int32)) (m := 880) rfl (by omega)), if_pos (own_gtT (u := u1) (k := (893 : Int32)) (m := 893) rfl (by omega)), own_ns_105, if_neg (own_ltF (u := u1) (k := (895 : Int32)) (m := 895) rfl (by omega)), if_pos (own_gtT (u := u1) (k := (8191 : Int32)) (m := 8191) rfl (by omega)), own_ns_119, if_neg (own_ltF (u := u1) (k := (8204 : Int32)) (m := 8204) rfl (by omega)), if_pos (own_gtT (u := u1) (k := (8205 : Int32)) (m := 8205) rfl (by omega)), own_ns_133, if_neg (own_ltF (u := u1) (k := (8304 : Int32)) (m := 8304) rfl (by omega)), if_neg (own_gtF (u := u1) (k := (8591 : Int32)) (m := 8591) rfl (by omega))]
  rw [own_ref_0, if_neg (own_ltF (u := u1) (k := (65 : Int32)) (m := 65) rfl (by omega)), if_neg (own_gtF (u := u1) (k := (983039 : Int32)) (m := 983039) rfl (by omega)), if_pos (own_inT (u := u1) (a := (91 : Int32)) (b := (94 : Int32)) (m := 91) (k := 94) rfl rfl (by omega)), if_neg (own_eqF (u := u1) (k := (96 : Int32)) (m := 96) rfl (by omega)), if_pos (own_inT (u := u1) (a := (123 : Int32)) (b := (191 : Int32)) (m := 123) (k := 191) rfl rfl (by omega)), if_neg (own_eqF (u := u1) (k := (215 : Int32)) (m := 215) rfl (by omega)), if_neg (own_eqF (u := u1) (k := (247 : Int32)) (m := 247) rfl (by omega)), if_pos (own_inT (u := u1) (a := (768 : Int32)) (b := (879 : Int32)) (m := 768) (k := 879) rfl rfl (by omega)), if_neg (own_eqF (u := u1) (k := (894 : Int32)) (m := 894) rfl (by omega)), if_pos (own_inT (u := u1) (a := (8192 : Int32)) (b := (8203 : Int32)) (m := 8192) (k := 8203) rfl rfl (by omega)), if_pos (own_inT (u := u1) (a := (8206 : Int32)) (b := (8303 : Int32)) (m := 8206) (k := 8303) rfl rfl (by omega)), if_pos (own_inT (u := u1) (a := (8592 : Int32)) (b := (11263 : Int32)) (m := 8592) (k := 11263) rfl rfl (by omega)), if_pos (own_inT (u := u1) (a := (12272 : Int32)) (b := (12288 : Int32)) (m := 12272) (k := 12288) rfl rfl (by omega)), if_pos (own_inT (u := u1) (a := (55296 : Int32)) (b := (63743 : Int32)) (m := 55296) (k := 63743) rfl rfl (by omega)), if_pos (own_inT (u := u1) (a := (64976 : Int32)) (b := (65007 : Int32)) (m := 64976) (k := 65007) rfl rfl (by omega)), if_pos (own_inT (u := u1) (a := (65534 : Int32)) (b := (65535 : Int32)) (m := 65534) (k := 65535) rfl rfl (by omega)), own_ref_179, if_pos rfl]
theorem own_reg_23 (u1 : Int32) (h1 : 8592 ≤ u1.toInt) (h2 : u1.toInt < 11264) : own_ns_0 u1 = own_ref_0 u1 := by
  rw [own_ns_0, if_neg (own_ltF (u := u1) (k := (128 : Int32)) (m := 128) rfl (by omega)), if_neg (own_ltF (u := u1) (k := (192 : Int32)) (m := 192) rfl (by omega)), if_pos (own_gtT (u := u1) (k := (214 : Int32)) (m := 214) rfl (by omega)), own_ns_63, if_neg (own_ltF (u := u1) (k := (216 : Int32)) (m := 216) rfl (by omega)), if_pos (own_gtT (u := u1) (k := (246 : Int32)) (m := 246) rfl (by omega)), own_ns_77, if_neg (own_ltF (u := u1) (k := (248 : Int32)) (m := 248) rfl (by omega)), if_pos (own_gtT (u := u1) (k := (767 : Int32)) (m := 767) rfl (by omega)), own_ns_91, if_neg (own_ltF (u := u1) (k := (880 : Int32)) (m := 880) rfl (by omega)), if_pos (own_gtT (u := u1) (k := (893 : Int32)) (m := 893) rfl (by omega)), own_ns_105, if_neg (own_ltF (u := u1) (k := (895 : Int32)) (m := 895) rfl (by omega)), if_pos (own_gtT (u := u1) (k := (8191 : Int32)) (m := 8191) rfl (by omega)), own_ns_119, if_neg (own_ltF (u := u1) (k := (8204 : Int32)) (m := 8204) rfl (by omega)), if_pos (own_gtT (u := u1) (k := (8205 : Int32)) (m := 8205) rfl (by omega)), own_ns_133, if_neg (own_ltF (u := u1) (k := (8304 : Int32)) (m := 8304) rfl (by omega)), if_pos (own_gtT (u := u1) (k := (8591 : Int32)) (m := 8591) rfl (by omega)), own_ns_147, if_pos (own_ltT (u := u1) (k := (11264 : Int32)) (m := 11264) rfl (by omega)), own_ns_161, if_pos (own_ltT (u := u1) (k := (12289 : Int32)) (m := 12289) rfl (by omega)), own_ns_174, if_pos (own_ltT (u := u1) (k := (63744 : Int32)) (m := 63744) rfl (by omega)), own_ns_186, if_pos (own_ltT (u := u1) (k := (65008 : Int32)) (m := 65008) rfl (by omega)), own_ns_198, if_pos (own_ltT (u := u1) (k := (65536 : Int32)) (m := 65536) rfl (by omega))]
  rw [own_ref_0, if_neg (own_ltF (u := u1) (k := (65 : Int32)) (m := 65) rfl (by omega)), if_neg (own_gtF (u := u1) (k := (983039 : Int32)) (m := 983039) rfl (by omega)), if_pos (own_inT (u := u1) (a := (91 : Int32)) (b := (94 : Int32)) (m := 91) (k := 94) rfl rfl (by omega)), if_neg (own_eqF (u := u1) (k := (96 : Int32)) (m := 96) rfl (by omega)), if_pos (own_inT (u := u1) (a := (123 : Int32)) (b := (191 : Int32)) (m := 123) (k := 191) rfl rfl (by omega)), if_neg (own_eqF (u := u1) (k := (215 : Int32)) (m := 215) rfl (by omega)), if_neg (own_eqF (u := u1) (k := (247 : Int32)) (m := 247) rfl (by omega)), if_pos (own_inT (u := u1) (a := (768 : Int32)) (b := (879 : Int32)) (m := 768) (k := 879) rfl rfl (by omega)), if_neg (own_eqF (u := u1) (k := (894 : Int32)) (m := 894) rfl (by omega)), if_pos (own_inT (u := u1) (a := (8192 : Int32)) (b := (8203 : Int32)) (m := 8192) (k := 8203) rfl rfl (by omega)), if_pos (own_inT (u := u1) (a := (8206 : Int32)) (b := (8303 : Int32)) (m := 8206) (k := 8303) rfl rfl (by omega)), if_neg (own_inF (u := u1) (a := (8592 : Int32)) (b := (11263 : Int32)) (m := 8592) (k := 11263) rfl rfl (by omega) (by omega)), own_ref_174, own_ref_179, if_neg (by decide)]
theorem own_reg_24 (u1 : Int32) (h1 : 11264 ≤ u1.toInt) (h2 : u1.toInt < 12272) : own_ns_0 u1 = own_ref_0 u1 := by
  rw [own_ns_0, if_neg (own_ltF (u := u1) (k := (128 : Int32)) (m := 128) rfl (by omega)), if_neg (own_ltF (u := u1) (k := (192 : Int32)) (m := 192) rfl (by omega)), if_pos (own_gtT (u := u1) (k := (214 : Int32)) (m := 214) rfl (by omega)), own_ns_63, if_neg (own_ltF (u := u1) (k := (216 : Int32)) (m := 216) rfl (by omega)), if_pos (own_gtT (u := u1) (k := (246 : Int32)) (m := 246) rfl (by omega)), own_ns_77, if_neg (own_ltF (u := u1) (k := (248 : Int32)) (m := 248) rfl (by omega)), if_pos (own_gtT (u := u1) (k := (767 : Int32)) (m := 767) rfl (by omega)), own_ns_91, if_neg (own_ltF (u := u1) (k := (880 : Int32)) (m := 880) rfl (by omega)), if_pos (own_gtT (u := u1) (k := (893 : Int32)) (m := 893) rfl (by omega)), own_ns_105, if_neg (own_ltF (u := u1) (k := (895 : Int32)) (m := 895) rfl (by omega)), if_pos (own_gtT (u := u1) (k := (8191 : Int32)) (m := 8191) rfl (by omega)), own_ns_119, if_neg (own_ltF (u := u1) (k := (8204 : Int32)) (m := 8204) rfl (by omega)), if_pos (own_gtT (u := u1) (k := (8205 : Int32)) (m := 8205) rfl (by omega)), own_ns_133, if_neg (own_ltF (u := u1) (k := (8304 : Int32)) (m := 8304) rfl (by omega)), if_pos (own_gtT (u := u1) (k := (8591 : Int32)) (m := 8591) rfl (by omega)), own_ns_147, if_neg (own_ltF (u := u1) (k := (11264 : Int32)) (m := 11264) rfl (by omega)), if_neg (own_gtF (u := u1) (k := (12271 : Int32)) (m := 12271) rfl (by omega))]
  rw [own_ref_0, if_neg (own_ltF (u := u1) (k := (65 : Int32)) (m := 65) rfl (by omega)), if_neg (own_gtF (u := u1) (k := (983039 : Int32)) (m := 983039) rfl (by omega)), if_pos (own_inT (u := u1) (a := (91 : Int32)) (b := (94 : Int32)) (m := 91) (k := 94) rfl rfl (by omega)), if_neg (own_eqF (u := u1) (k := (96 : Int32)) (m := 96) rfl (by omega)), if_pos (own_inT (u := u1) (a := (123 : Int32)) (b := (191 : Int32)) (m := 123) (k := 191) rfl rfl (by omega)), if_neg (own_eqF (u := u1) (k := (215 : Int32)) (m := 215) rfl (by omega)), if_neg (own_eqF (u := u1) (k := (247 : Int32)) (m := 247) rfl (by omega)), if_pos (own_inT (u := u1) (a := (768 : Int32)) (b := (879 : Int32)) (m := 768) (k := 879) rfl rfl (by omega)), if_neg (own_eqF (u := u1) (k := (894 : Int32)) (m := 894) rfl (by omega)), if_pos (own_inT (u := u1) (a := (8192 : Int32)) (b := (8203 : Int32)) (m := 8192) (k := 8203) rfl rfl (by omega)), if_pos (own_inT (u := u1) (a := (8206 : Int32)) (b := (8303 : Int32)) (m := 8206) (k := 8303) rfl rfl (by omega)), if_pos (own_inT (u := u1) (a := (8592 : Int32)) (b := (11263 : Int32)) (m := 8592) (k := 11263) rfl rfl (by omega)), if_pos (own_inT (u := u1) (a := (12272 : Int32)) (b := (12288 : Int32)) (m := 12272) (k := 12288) rfl rfl (by omega)), if_pos (own_inT (u := u1) (a := (55296 : Int32)) (b := (63743 : Int32)) (m := 55296) (k := 63743) rfl rfl (by omega)), if_pos (own_inT (u := u1) (a := (64976 : Int32)) (b := (65007 : Int32)) (m := 64976) (k := 65007) rfl rfl (by omega)), if_pos (own_inT (u := u1) (a := (65534 : Int32)) (b := (65535 : Int32)) (m := 65534) (k := 65535) rfl rfl (by omega)), own_ref_179, if_pos rfl]
theorem own_reg_25 (u1 : Int32) (h1 : 12272 ≤ u1.toInt) (h2 : u1.toInt < 12289) : own_ns_0 u1 = own_ref_0 u1 := by
  rw [own_ns_0, if_neg (own_ltF (u := u1) (k := (128 : Int32)) (m := 128) rfl (by omega)), if_neg (own_ltF (u := u1) (k := (192 : Int32)) (m := 192) rfl (by omega)), if_pos (own_gtT (u := u1) (k := (214 : Int32)) (m := 214) rfl (by omega)), own_ns_63, if_neg (own_ltF (u := u1) (k := (216 : Int32)) (m := 216) rfl (by omega)), if_pos (own_gtT (u := u1) (k := (246 : Int32)) (m := 246) rfl (by omega)), own_ns_77, if_neg (own_ltF (u := u1) (k := (248 : Int32)) (m := 248) rfl (by omega)), if_pos (own_gtT (u := u1) (k := (767 : Int32)) (m := 767) rfl (by omega)), own_ns_91, if_neg (own_ltF (u := u1) (k := (880 : Int32)) (m := 880) rfl (by omega)), if_pos (own_gtT (u := u1) (k := (893 : Int32)) (m := 893) rfl (by omega)), own_ns_105, if_neg (own_ltF (u := u1) (k := (895 : Int32)) (m := 895) rfl (by omega)), if_pos (own_gtT (u := u1) (k := (8191 : Int32)) (m := 8191) rfl (by omega)), own_ns_119, if_neg (own_ltF (u := u1) (k := (8204 : Int32)) (m := 8204) rfl (by omega)), if_pos (own_gtT (u := u1) (k := (8205 : Int32)) (m := 8205) rfl (by omega)), own_ns_133, if_neg (own_ltF (u := u1) (k := (8304 : Int32)) (m := 8304) rfl (by omega)), if_pos (own_gtT (u := u1) (k := (8591 : Int32)) (m := 8591) rfl (by omega)), own_ns_147, if_neg (own_ltF (u := u1) (k := (11264 : Int32)) (m := 11264) rfl (by omega)), if_pos (own_gtT (u := u1) (k := (12271 : Int32)) (m := 12271) rfl (by omega)), own_ns_161, if_pos (own_ltT (u := u1) (k := (12289 : Int32)) (m := 12289) rfl (by omega)), own_ns_174, if_pos (own_ltT (u := u1) (k := (63744 : Int32)) (m := 63744) rfl (by omega)), own_ns_186, if_pos (own_ltT (u := u1) (k := (65008 : Int32)) (m := 65008) rfl (by omega)), own_ns_198, if_pos (own_ltT (u := u1) (k := (65536 : Int32)) (m := 65536) rfl (by omega))]
  rw [own_ref_0, if_neg (own_ltF (u := u1) (k := (65 : Int32)) (m := 65) rfl (by omega)), if_neg (own_gtF (u := u1) (k := (983039 : Int32)) (m := 983039) rfl (by omega)), if_pos (own_inT (u := u1) (a := (91 : Int32)) (b := (94 : Int32)) (m := 91) (k := 94) rfl rfl (by omega)), if_neg (own_eqF (u := u1) (k := (96 : Int32)) (m := 96) rfl (by omega)), if_pos (own_inT (u := u1) (a := (123 : Int32)) (b := (191 : Int32)) (m := 123) (k := 191) rfl rfl (by omega)), if_neg (own_eqF (u := u1) (k := (215 : Int32)) (m := 215) rfl (by omega)), if_neg (own_eqF (u := u1) (k := (247 : Int32)) (m := 247) rfl (by omega)), if_pos (own_inT (u := u1) (a := (768 : Int32)) (b := (879 : Int32)) (m := 768) (k := 879) rfl rfl (by omega)), if_neg (own_eqF (u := u1) (k := (894 : Int32)) (m := 894) rfl (by omega)), if_pos (own_inT (u := u1) (a := (8192 : Int32)) (b := (8203 : Int32)) (m := 8192) (k := 8203) rfl rfl (by omega)), if_pos (own_inT (u := u1) (a := (8206 : Int32)) (b := (8303 : Int32)) (m := 8206) (k := 8303) rfl rfl (by omega)), if_pos (own_inT (u := u1) (a := (8592 : Int32)) (b := (11263 : Int32)) (m := 8592) (k := 11263) rfl rfl (by omega)), if_neg (own_inF (u := u1) (a := (12272 : Int32)) (b := (12288 : Int32)) (m := 12272) (k := 12288) rfl rfl (by omega) (by omega)), own_ref_174, own_ref_179, if_neg (by decide)]
theorem own_reg_26 (u1 : Int32) (h1 : 12289 ≤ u1.toInt) (h2 : u1.toInt < 55296) : own_ns_0 u1 = own_ref_0 u1 := by
  rw [own_ns_0, if_neg (own_ltF (u := u1) (k := (128 : Int32)) (m := 128) rfl (by omega)), if_neg (own_ltF (u := u1) (k := (192 : Int32)) (m := 192) rfl (by omega)), if_pos (own_gtT (u := u1) (k := (214 : Int32)) (m := 214) rfl (by omega)), own_ns_63, if_neg (own_ltF (u := u1) (k := (216 : Int32)) (m := 216) rfl (by omega)), if_pos (own_gtT (u := u1) (k := (246 : Int32)) (m := 246) rfl (by omega)), own_ns_77, if_neg (own_ltF (u := u1) (k := (248 : Int32)) (m := 248) rfl (by omega)), if_pos (own_gtT (u := u1) (k := (767 : Int32)) (m := 767) rfl (by omega)), own_ns_91, if_neg (own_ltF (u := u1) (k := (880 : Int32)) (m := 880) rfl (by omega)), if_pos (own_gtT (u := u1) (k := (893 : Int32)) (m := 893) rfl (by omega)), own_ns_105, if_neg (own_ltF (u := u1) (k := (895 : Int32)) (m := 895) rfl (by omega)), if_pos (own_gtT (u := u1) (k := (8191 : Int32)) (m := 8191) rfl (by omega)), own_ns_119, if_neg (own_ltF (u := u1) (k := (8204 : Int32)) (m := 8204) rfl (by omega)), if_pos (own_gtT (u := u1) (k := (8205 : Int32)) (m := 8205) rfl (by omega)), own_ns_133, if_neg (own_ltF (u := u1) (k := (8304 : Int32)) (m := 8304) rfl (by omega)), if_pos (own_gtT (u := u1) (k := (8591 : Int32)) (m := 8591) rfl (by omega)), own_ns_147, if_neg (own_ltF (u := u1) (k := (11264 : Int32)) (m := 11264) rfl (by omega)), if_pos (own_gtT (u := u1) (k := (12271 : Int32)) (m := 12271) rfl (by omega)), own_ns_161, if_neg (own_ltF (u := u1) (k := (12289 : Int32)) (m := 12289) rfl (by omega)), if_neg (own_gtF (u := u1) (k := (55295 : Int32)) (m := 55295) rfl (by omega))]
  rw [own_ref_0, if_neg (own_ltF (u := u1) (k := (65 : Int32)) (m := 65) rfl (by omega)), if_neg (own_gtF (u := u1) (k := (983039 : Int32)) (m := 983039) rfl (by omega)), if_pos (own_inT (u := u1) (a := (91 : Int32)) (b := (94 : Int32)) (m := 91) (k := 94) rfl rfl (by omega)), if_neg (own_eqF (u := u1) (k := (96 : Int32)) (m := 96) rfl (by omega)), if_pos (own_inT (u := u1) (a := (123 : Int32)) (b := (191 : Int32)) (m := 123) (k := 191) rfl rfl (by omega)), if_neg (own_eqF (u := u1) (k := (215 : Int32)) (m := 215) rfl (by omega)), if_neg (own_eqF (u := u1) (k := (247 : Int32)) (m := 247) rfl (by omega)), if_pos (own_inT (u := u1) (a := (768 : Int32)) (b := (879 : Int32)) (m := 768) (k := 879) rfl rfl (by omega)), if_neg (own_eqF (u := u1) (k := (894 : Int32)) (m := 894) rfl (by omega)), if_pos (own_inT (u := u1) (a := (8192 : Int32)) (b := (8203 : Int32)) (m := 8192) (k := 8203) rfl rfl (by omega)), if_pos (own_inT (u := u1) (a := (8206 : Int32)) (b := (8303 : Int32)) (m := 8206) (k := 8303) rfl rfl (by omega)), if_pos (own_inT (u := u1) (a := (8592 : Int32)) (b := (11263 : Int32)) (m := 8592) (k := 11263) rfl rfl (by omega)), if_pos (own_inT (u := u1) (a := (12272 : Int32)) (b := (12288 : Int32)) (m := 12272) (k := 12288) rfl rfl (by omega)), if_pos (own_inT (u := u1) (a := (55296 : Int32)) (b := (63743 : Int32)) (m := 55296) (k := 63743) rfl rfl (by omega)), if_pos (own_inT (u := u1) (a := (64976 : Int32)) (b := (65007 : Int32)) (m := 64976) (k := 65007) rfl rfl (by omega)), if_pos (own_inT (u := u1) (a := (65534 : Int32)) (b := (65535 : Int32)) (m := 65534) (k := 65535) rfl rfl (by omega)), own_ref_179, if_pos rfl]
theorem own_reg_27 (u1 : Int32) (h1 : 55296 ≤ u1.toInt) (h2 : u1.toInt < 63744) : own_ns_0 u1 = own_ref_0 u1 := by
  rw [own_ns_0, if_neg (own_ltF (u := u1) (k := (128 : Int32)) (m := 128) rfl (by omega)), if_neg (own_ltF (u := u1) (k := (192 : Int32)) (m := 192) rfl (by omega)), if_pos (own_gtT (u := u1) (k := (214 : Int32)) (m := 214) rfl (by omega)), own_ns_63, if_neg (own_ltF (u := u1) (k := (216 : Int32)) (m := 216) rfl (by omega)), if_pos (own_gtT (u := u1) (k := (246 : Int32)) (m := 246) rfl (by omega)), own_ns_77, if_neg (own_ltF (u := u1) (k := (248 : Int32)) (m := 248) rfl (by omega)), if_pos (own_gtT (u := u1) (k := (767 : Int32)) (m := 767) rfl (by omega)), own_ns_91, if_neg (own_ltF (u := u1) (k := (880 : Int32)) (m := 880) rfl (by omega)), if_pos (own_gtT (u := u1) (k := (893 : Int32)) (m := 893) rfl (by omega)), own_ns_105, if_neg (own_ltF (u := u1) (k := (895 : Int32)) (m := 895) rfl (by omega)), if_pos (own_gtT (u := u1) (k := (8191 : Int32)) (m := 8191) rfl (by omega)), own_ns_119, if_neg (own_ltF (u := u1) (k := (8204 : Int32)) (m := 8204) rfl (by omega)), if_pos (own_gtT (u := u1) (k := (8205 : Int32)) (m := 8205) rfl (by omega)), own_ns_133, if_neg (own_ltF (u := u1) (k := (8304 : Int32)) (m := 8304) rfl (by omega)), if_pos (own_gtT (u := u1) (k := (8591 : Int32)) (m := 8591) rfl (by omega)), own_ns_147, if_neg (own_ltF (u := u1) (k := (11264 : Int32)) (m := 11264) rfl (by omega)), if_pos (own_gtT (u := u1) (k := (12271 : Int32)) (m := 12271) rfl (by omega)), own_ns_161, if_neg (own_ltF (u := u1) (k := (12289 : Int32)) (m := 12289) rfl (by omega)), if_pos (own_gtT (u := u1) (k := (55295 : Int32)) (m := 55295) rfl (by omega)), own_ns_174, if_pos (own_ltT (u := u1) (k := (63744 : Int32)) (m := 63744) rfl (by omega)), own_ns_186, if_pos (own_ltT (u := u1) (k := (65008 : Int32)) (m := 65008) rfl (by omega)), own_ns_198, if_pos (own_ltT (u := u1) (k := (65536 : Int32)) (m := 65536) rfl (by omega))]
  rw [own_ref_0, if_neg (own_ltF (u := u1) (k := (65 : Int32)) (m := 65) rfl (by omega)), if_neg (own_gtF (u := u1) (k := (983039 : Int32)) (m := 983039) rfl (by omega)), if_pos (own_inT (u := u1) (a := (91 : Int32)) (b := (94 : Int32)) (m := 91) (k := 94) rfl rfl (by omega)), if_neg (own_eqF (u := u1) (k := (96 : Int32)) (m := 96) rfl (by omega)), if_pos (own_inT (u := u1) (a := (123 : Int32)) (b := (191 : Int32)) (m := 123) (k := 191) rfl rfl (by omega)), if_neg (own_eqF (u := u1) (k := (215 : Int32)) (m := 215) rfl (by omega)), if_neg (own_eqF (u := u1) (k := (247 : Int32)) (m := 247) rfl (by omega)), if_pos (own_inT (u := u1) (a := (768 : Int32)) (b := (879 : Int32)) (m := 768) (k := 879) rfl rfl (by omega)), if_neg (own_eqF (u := u1) (k := (894 : Int32)) (m := 894) rfl (by omega)), if_pos (own_inT (u := u1) (a := (8192 : Int32)) (b := (8203 : Int32)) (m := 8192) (k := 8203) rfl rfl (by omega)), if_pos (own_inT (u := u1) (a := (8206 : Int32)) (b := (8303 : Int32)) (m := 8206) (k := 8303) rfl rfl (by omega)), if_pos (own_inT (u := u1) (a := (8592 : Int32)) (b := (11263 : Int32)) (m := 8592) (k := 11263) rfl rfl (by omega)), if_pos (own_inT (u := u1) (a := (12272 : Int32)) (b := (12288 : Int32)) (m := 12272) (k := 12288) rfl rfl (by omega)), if_neg (own_inF (u := u1) (a := (55296 : Int32)) (b := (63743 : Int32)) (m := 55296) (k := 63743) rfl rfl (by omega) (by omega)), own_ref_174, own_ref_179, if_neg (by decide)]
theorem own_reg_28 (u1 : Int32) (h1 : 63744 ≤ u1.toInt) (h2 : u1.toInt < 64976) : own_ns_0 u1 = own_ref_0 u1 := by
  rw [own_ns_0, if_neg (own_ltF (u := u1) (k := (128 : Int32)) (m := 128) rfl (by omega)), if_neg (own_ltF (u := u1) (k := (192 : Int32)) (m := 192) rfl (by omega)), if_pos (own_gtT (u := u1) (k := (214 : Int32)) (m := 214) rfl (by omega)), own_ns_63, if_neg (own_ltF (u := u1) (k := (216 : Int32)) (m := 216) rfl (by omega)), if_pos (own_gtT (u := u1) (k := (246 : Int32)) (m := 246) rfl (by omega)), own_ns_77, if_neg (own_ltF (u := u1) (k := (248 : Int32)) (m := 248) rfl (by omega)), if_pos (own_gtT (u := u1) (k := (767 : Int32)) (m := 767) rfl (by omega)), own_ns_91, if_neg (own_ltF (u := u1) (k := (880 : Int32)) (m := 880) rfl (by omega)), if_pos (own_gtT (u := u1) (k := (893 : Int32)) (m := 893) rfl (by omega)), own_ns_105, if_neg (own_ltF (u := u1) (k := (895 : Int32)) (m := 895) rfl (by omega)), if_pos (own_gtT (u := u1) (k := (8191 : Int32)) (m := 8191) rfl (by omega)), own_ns_119, if_neg (own_ltF (u := u1) (k := (8204 : Int32)) (m := 8204) rfl (by omega)), if_pos (own_gtT (u := u1) (k := (8205 : Int32)) (m := 8205) rfl (by omega)), own_ns_133, if_neg (own_ltF (u := u1) (k := (8304 : Int32)) (m := 8304) rfl (by omega)), if_pos (own_gtT (u := u1) (k := (8591 : Int32)) (m := 8591) rfl (by omega)), own_ns_147, if_neg (own_ltF (u := u1) (k := (11264 : Int32)) (m := 11264) rfl (by omega)), if_pos (own_gtT (u := u1) (k := (12271 : Int32)) (m := 12271) rfl (by omega)), own_ns_161, if_neg (own_ltF (u := u1) (k := (12289 : Int32)) (m := 12289) rfl (by omega)), if_pos (own_gtT (u := u1) (k := (55295 : Int32)) (m := 55295) rfl (by omega)), own_ns_174, if_neg (own_ltF (u := u1) (k := (63744 : Int32)) (m := 63744) rfl (by omega)), if_neg (own_gtF (u := u1) (k := (64975 : Int32)) (m := 64975) rfl (by omega))]
  rw [own_ref_0, if_neg (own_ltF (u := u1) (k := (65 : Int32)) (m := 65) rfl (by omega)), if_neg (own_gtF (u := u1) (k := (983039 : Int32)) (m := 983039) rfl (by omega)), if_pos (own_inT (u := u1) (a := (91 : Int32)) (b := (94 : Int32)) (m := 91) (k := 94) rfl rfl (by omega)), if_neg (own_eqF (u := u1) (k := (96 : Int32)) (m := 96) rfl (by omega)), if_pos (own_inT (u := u1) (a := (123 : Int32)) (b := (191 : Int32)) (m := 123) (k := 191) rfl rfl (by omega)), if_neg (own_eqF (u := u1) (k := (215 : Int32)) (m := 215) rfl (by omega)), if_neg (own_eqF (u := u1) (k := (247 : Int32)) (m := 247) rfl (by omega)), if_pos (own_inT (u := u1) (a := (768 : Int32)) (b := (879 : Int32)) (m := 768) (k := 879) rfl rfl (by omega)), if_neg (own_eqF (u := u1) (k := (894 : Int32)) (m := 894) rfl (by omega)), if_pos (own_inT (u := u1) (a := (8192 : Int32)) (b := (8203 : Int32)) (m := 8192) (k := 8203) rfl rfl (by omega)), if_pos (own_inT (u := u1) (a := (8206 : Int32)) (b := (8303 : Int32)) (m := 8206) (k := 8303) rfl rfl (by omega)), if_pos (own_inT (u := u1) (a := (8592 : Int32)) (b := (11263 : Int32)) (m := 8592) (k := 11263) rfl rfl (by omega)), if_pos (own_inT (u := u1) (a := (12272 : Int32)) (b := (12288 : Int32)) (m := 12272) (k := 12288) rfl rfl (by omega)), if_pos (own_inT (u := u1) (a := (55296 : Int32)) (b := (63743 : Int32)) (m := 55296) (k := 63743) rfl rfl (by omega)), if_pos (own_inT (u := u1) (a := (64976 : Int32)) (b := (65007 : Int32)) (m := 64976) (k := 65007) rfl rfl (by omega)), if_pos (own_inT (u := u1) (a := (65534 : Int32)) (b := (65535 : Int32)) (m := 65534) (k := 65535) rfl rfl (by omega)), own_ref_179, if_pos rfl]
theorem own_reg_29 (u1 : Int32) (h1 : 64976 ≤ u1.toInt) (h2 : u1.toInt < 65008) : own_ns_0 u1 = own_ref_0 u1 := by
  rw [own_ns_0, if_neg (own_ltF (u := u1) (k := (128 : Int32)) (m := 128) rfl (by omega)), if_neg (own_ltF (u := u1) (k := (192 : Int32)) (m := 192) rfl (by omega)), if_pos (own_gtT (u := u1) (k := (214 : Int32)) (m := 214) rfl (by omega)), own_ns_63, if_neg (own_ltF (u := u1) (k := (216 : Int32)) (m := 216) rfl (by omega)), if_pos (own_gtT (u := u1) (k := (246 : Int32)) (m := 246) rfl (by omega)), own_ns_77, if_neg (own_ltF (u := u1) (k := (248 : Int32)) (m := 248) rfl (by omega)), if_pos (own_gtT (u := u1) (k := (767 : Int32)) (m := 767) rfl (by omega)), own_ns_91, if_neg (own_ltF (u := u1) (k := (880 : Int32)) (m := 880) rfl (by omega)), if_pos (own_gtT (u := u1) (k := (893 : Int32)) (m := 893) rfl (by omega)), own_ns_105, if_neg (own_ltF (u := u1) (k := (895 : Int32)) (m := 895) rfl (by omega)), if_pos (own_gtT (u := u1) (k := (8191 : Int32)) (m := 8191) rfl (by omega)), own_ns_119, if_neg (own_ltF (u := u1) (k := (8204 : Int32)) (m := 8204) rfl (by omega)), if_pos (own_gtT (u := u1) (k := (8205 : Int32)) (m := 8205) rfl (by omega)), own_ns_133, if_neg (own_ltF (u := u1) (k := (8304 : Int32)) (m := 8304) rfl (by omega)), if_pos (own_gtT (u := u1) (k := (8591 : Int32)) (m := 8591) rfl (by omega)), own_ns_147, if_neg (own_ltF (u := u1) (k := (11264 : Int32)) (m := 11264) rfl (by omega)), if_pos (own_gtT (u := u1) (k := (12271 : Int32)) (m := 12271) rfl (by omega)), own_ns_161, if_neg (own_ltF (u := u1) (k := (12289 : Int32)) (m := 12289) rfl (by omega)), if_pos (own_gtT (u := u1) (k := (55295 : Int32)) (m := 55295) rfl (by omega)), own_ns_174, if_neg (own_ltF (u := u1) (k := (63744 : Int32)) (m := 63744) rfl (by omega)), if_pos (own_gtT (u := u1) (k := (64975 : Int32)) (m := 64975) rfl (by omega)), own_ns_186, if_pos (own_ltT (u := u1) (k := (65008 : Int32)) (m := 65008) rfl (by omega)), own_ns_198, if_pos (own_ltT (u := u1) (k := (65536 : Int32)) (m := 65536) rfl (by omega))]
  rw [own_ref_0, if_neg (own_ltF (u := u1) (k := (65 : Int32)) (m := 65) rfl (by omega)), if_neg (own_gtF (u := u1) (k := (983039 : Int32)) (m := 983039) rfl (by omega)), if_pos (own_inT (u := u1) (a := (91 : Int32)) (b := (94 : Int32)) (m := 91) (k := 94) rfl rfl (by omega)), if_neg (own_eqF (u := u1) (k := (96 : Int32)) (m := 96) rfl (by omega)), if_pos (own_inT (u := u1) (a := (123 : Int32)) (b := (191 : Int32)) (m := 123) (k := 191) rfl rfl (by omega)), if_neg (own_eqF (u := u1) (k := (215 : Int32)) (m := 215) rfl (by omega)), if_neg (own_eqF (u := u1) (k := (247 : Int32)) (m := 247) rfl (by omega)), if_pos (own_inT (u := u1) (a := (768 : Int32)) (b := (879 : Int32)) (m := 768) (k := 879) rfl rfl (by omega)), if_neg (own_eqF (u := u1) (k := (894 : Int32)) (m := 894) rfl (by omega)), if_pos (own_inT (u := u1) (a := (8192 : Int32)) (b := (8203 : Int32)) (m := 8192) (k := 8203) rfl rfl (by omega)), if_pos (own_inT (u := u1) (a := (8206 : Int32)) (b := (8303 : Int32)) (m := 8206) (k := 8303) rfl rfl (by omega)), if_pos (own_inT (u := u1) (a := (8592 : Int32)) (b := (11263 : Int32)) (m := 8592) (k := 11263) rfl rfl (by omega)), if_pos (own_inT (u := u1) (a := (12272 : Int32)) (b := (12288 : Int32)) (m := 12272) (k := 12288) rfl rfl (by omega)), if_pos (own_inT (u := u1) (a := (55296 : Int32)) (b := (63743 : Int32)) (m := 55296) (k := 63743) rfl rfl (by omega)), if_neg (own_inF (u := u1) (a := (64976 : Int32)) (b := (65007 : Int32)) (m := 64976) (k := 65007) rfl rfl (by omega) (by omega)), own_ref_174, own_ref_179, if_neg (by decide)]
theorem own_reg_30 (u1 : Int32) (h1 : 65008 ≤ u1.toInt) (h2 : u1.toInt < 65534) : own_ns_0 u1 = own_ref_0 u1 := by
  rw [own_ns_0, if_neg (own_ltF (u := u1) (k := (128 : Int32)) (m := 128) rfl (by omega)), if_neg (own_ltF (u := u1) (k := (192 : Int32)) (m := 192) rfl (by omega)), if_pos (own_gtT (u := u1) (k := (214 : Int32)) (m := 214) rfl (by omega)), own_ns_63, if_neg (own_ltF (u := u1) (k := (216 : Int32)) (m := 216) rfl (by omega)), if_pos (own_gtT (u := u1) (k := (246 : Int32)) (m := 246) rfl (by omega)), own_ns_77, if_neg (own_ltF (u := u1) (k := (248 : Int32)) (m := 248) rfl (by omega)), if_pos (own_gtT (u := u1) (k := (767 : Int32)) (m := 767) rfl (by omega)), own_ns_91, if_neg (own_ltF (u := u1) (k := (880 : Int32)) (m := 880) rfl (by omega)), if_pos (own_gtT (u := u1) (k := (893 : Int32)) (m := 893) rfl (by omega)), own_ns_105, if_neg (own_ltF (u := u1) (k := (895 : Int32)) (m := 895) rfl (by omega)), if_pos (own_gtT (u := u1) (k := (8191 : Int32)) (m := 8191) rfl (by omega)), own_ns_119, if_neg (own_ltF (u := u1) (k := (8204 : Int32)) (m := 8204) rfl (by omega)), if_pos (own_gtT (u := u1) (k := (8205 : Int32)) (m := 8205) rfl (by omega)), own_ns_133, if_neg (own_ltF (u := u1) (k := (8304 : Int32)) (m := 8304) rfl (by omega)), if_pos (own_gtT (u := u1) (k := (8591 : Int32)) (m := 8591) rfl (by omega)), own_ns_147, if_neg (own_ltF (u := u1) (k := (11264 : Int32)) (m := 11264) rfl (by omega)), if_pos (own_gtT (u := u1) (k := (12271 : Int32)) (m := 12271) rfl (by omega)), own_ns_161, if_neg (own_ltF (u := u1) (k := (12289 : Int32)) (m := 12289) rfl (by omega)), if_pos (own_gtT (u := u1) (k := (55295 : Int32)) (m := 55295) rfl (by omega)), own_ns_174, if_neg (own_ltF (u := u1) (k := (63744 : Int32)) (m := 63744) rfl (by omega)), if_pos (own_gtT (u := u1) (k := (64975 : Int32)) (m := 64975) rfl (by omega)), own_ns_186, if_neg (own_ltF (u := u1) (k := (65008 : Int32)) (m := 65008) rfl (by omega)), if_neg (own_gtF (u := u1) (k := (65533 : Int32)) (m := 65533) rfl (by omega))]
  rw [own_ref_0, if_neg (own_ltF (u := u1) (k := (65 : Int32)) (m := 65) rfl (by omega)), if_neg (own_gtF (u := u1) (k := (983039 : Int32)) (m := 983039) rfl (by omega)), if_pos (own_inT (u := u1) (a := (91 : Int32)) (b := (94 : Int32)) (m := 91) (k := 94) rfl rfl (by omega)), if_neg (own_eqF (u := u1) (k := (96 : Int32)) (m := 96) rfl (by omega)), if_pos (own_inT (u := u1) (a := (123 : Int32)) (b := (191 : Int32)) (m := 123) (k := 191) rfl rfl (by omega)), if_neg (own_eqF (u := u1) (k := (215 : Int32)) (m := 215) rfl (by omega)), if_neg (own_eqF (u := u1) (k := (247 : Int32)) (m := 247) rfl (by omega)), if_pos (own_inT (u := u1) (a := (768 : Int32)) (b := (879 : Int32)) (m := 768) (k := 879) rfl rfl (by omega)), if_neg (own_eqF (u := u1) (k := (894 : Int32)) (m := 894) rfl (by omega)), if_pos (own_inT (u := u1) (a := (8192 : Int32)) (b := (8203 : Int32)) (m := 8192) (k := 8203) rfl rfl (by omega)), if_pos (own_inT (u := u1) (a := (8206 : Int32)) (b := (8303 : Int32)) (m := 8206) (k := 8303) rfl rfl (by omega)), if_pos (own_inT (u := u1) (a := (8592 : Int32)) (b := (11263 : Int32)) (m := 8592) (k := 11263) rfl rfl (by omega)), if_pos (own_inT (u := u1) (a := (12272 : Int32)) (b := (12288 : Int32)) (m := 12272) (k := 12288) rfl rfl (by omega)), if_pos (own_inT (u := u1) (a := (55296 : Int32)) (b := (63743 : Int32)) (m := 55296) (k := 63743) rfl rfl (by omega)), if_pos (own_inT (u := u1) (a := (64976 : Int32)) (b := (65007 : Int32)) (m := 64976) (k := 65007) rfl rfl (by omega)), if_pos (own_inT (u := u1) (a := (65534 : Int32)) (b := (65535 : Int32)) (m := 65534) (k := 65535) rfl rfl (by omega)), own_ref_179, if_pos rfl]
theorem own_reg_31 (u1 : Int32) (h1 : 65534 ≤ u1.toInt) (h2 : u1.toInt < 65536) : own_ns_0 u1 = own_ref_0 u1 := by
  rw [own_ns_0, if_neg (own_ltF (u := u1) (k := (128 : Int32)) (m := 128) rfl (by omega)), if_neg (own_ltF (u := u1) (k := (192 : Int32)) (m := 192) rfl (by omega)), if_pos (own_gtT (u := u1) (k := (214 : Int32)) (m := 214) rfl (by omega)), own_ns_63, if_neg (own_ltF (u := u1) (k := (216 : Int32)) (m := 216) rfl (by omega)), if_pos (own_gtT (u := u1) (k := (246 : Int32)) (m := 246) rfl (by omega)), own_ns_77, if_neg (own_ltF (u := u1) (k := (248 : Int32)) (m := 248) rfl (by omega)), if_pos (own_gtT (u := u1) (k := (767 : Int32)) (m := 767) rfl (by omega)), own_ns_91, if_neg (own_ltF (u := u1) (k := (880 : Int32)) (m := 880) rfl (by omega)), if_pos (own_gtT (u := u1) (k := (893 : Int32)) (m := 893) rfl (by omega)), own_ns_105, if_neg (own_ltF (u := u1) (k := (895 : Int32)) (m := 895) rfl (by omega)), if_pos (own_gtT (u := u1) (k := (8191 : Int32)) (m := 8191) rfl (by omega)), own_ns_119, if_neg (own_ltF (u := u1) (k := (8204 : Int32)) (m := 8204) rfl (by omega)), if_pos (own_gtT (u := u1) (k := (8205 : Int32)) (m := 8205) rfl (by omega)), own_ns_133, if_neg (own_ltF (u := u1) (k := (8304 : Int32)) (m := 8304) rfl (by omega)), if_pos (own_gtT (u := u1) (k := (8591 : Int32)) (m := 8591) rfl (by omega)), own_ns_147, if_neg (own_ltF (u := u1) (k := (11264 : Int32)) (m := 11264) rfl (by omega)), if_pos (own_gtT (u := u1) (k := (12271 : Int32)) (m := 12271) rfl (by omega)), own_ns_161, if_neg (own_ltF (u := u1) (k := (12289 : Int32)) (m := 12289) rfl (by omega)), if_pos (own_gtT (u := u1) (k := (55295 : Int32)) (m := 55295) rfl (by omega)), own_ns_174, if_neg (own_ltF (u := u1) (k := (63744 : Int32)) (m := 63744) rfl (by omega)), if_pos (own_gtT (u := u1) (k := (64975 : Int32)) (m := 64975) rfl (by omega)), own_ns_186, if_neg (own_ltF (u := u1) (k := (65008 : Int32)) (m := 65008) rfl (by omega)), if_pos (own_gtT (u := u1) (k := (65533 : Int32)) (m := 65533) rfl (by omega)), own_ns_198, if_pos (own_ltT (u := u1) (k := (65536 : Int32)) (m := 65536) rfl (by omega))]
  rw [own_ref_0, if_neg (own_ltF (u := u1) (k := (65 : Int32)) (m := 65) rfl (by omega)), if_neg (own_gtF (u := u1) (k := (983039 : Int32)) (m := 983039) rfl (by omega)), if_pos (own_inT (u := u1) (a := (91 : Int32)) (b := (94 : Int32)) (m := 91) (k := 94) rfl rfl (by omega)), if_neg (own_eqF (u := u1) (k := (96 : Int32)) (m := 96) rfl (by omega)), if_pos (own_inT (u := u1) (a := (123 : Int32)) (b := (191 : Int32)) (m := 123) (k := 191) rfl rfl (by omega)), if_neg (own_eqF (u := u1) (k := (215 : Int32)) (m := 215) rfl (by omega)), if_neg (own_eqF (u := u1) (k := (247 : Int32)) (m := 247) rfl (by omega)), if_pos (own_inT (u := u1) (a := (768 : Int32)) (b := (879 : Int32)) (m := 768) (k := 879) rfl rfl (by omega)), if_neg (own_eqF (u := u1) (k := (894 : Int32)) (m := 894) rfl (by omega)), if_pos (own_inT (u := u1) (a := (8192 : Int32)) (b := (8203 : Int32)) (m := 8192) (k := 8203) rfl rfl (by omega)), if_pos (own_inT (u := u1) (a := (8206 : Int32)) (b := (8303 : Int32)) (m := 8206) (k := 8303) rfl rfl (by omega)), if_pos (own_inT (u := u1) (a := (8592 : Int32)) (b := (11263 : Int32)) (m := 8592) (k := 11263) rfl rfl (by omega)), if_pos (own_inT (u := u1) (a := (12272 : Int32)) (b := (12288 : Int32)) (m := 12272) (k := 12288) rfl rfl (by omega)), if_pos (own_inT (u := u1) (a := (55296 : Int32)) (b := (63743 : Int32)) (m := 55296) (k := 63743) rfl rfl (by omega)), if_pos (own_inT (u := u1) (a := (64976 : Int32)) (b := (65007 : Int32)) (m := 64976) (k := 65007) rfl rfl (by omega)), if_neg (own_inF (u := u1) (a := (65534 : Int32)) (b := (65535 : Int32)) (m := 65534) (k := 65535) rfl rfl (by omega) (by omega)), own_ref_174, own_ref_179, if_neg (by decide)]
theorem own_reg_32 (u1 : Int32) (h1 : 65536 ≤ u1.toInt) (h2 : u1.toInt < 983040) : own_ns_0 u1 = own_ref_0 u1 := by
  rw [own_ns_0, if_neg (own_ltF (u := u1) (k := (128 : Int32)) (m := 128) rfl (by omega)), if_neg (own_ltF (u := u1) (k := (192 : Int32)) (m := 192) rfl (by omega)), if_pos (own_gtT (u := u1) (k := (214 : Int32)) (m := 214) rfl (by omega)), own_ns_63, if_neg (own_ltF (u := u1) (k := (216 : Int32)) (m := 216) rfl (by omega)), if_pos (own_gtT (u := u1) (k := (246 : Int32)) (m := 246) rfl (by omega)), own_ns_77, if_neg (own_ltF (u := u1) (k := (248 : Int32)) (m := 248) rfl (by omega)), if_pos (own_gtT (u := u1) (k := (767 : Int32)) (m := 767) rfl (by omega)), own_ns_91, if_neg (own_ltF (u := u1) (k := (880 : Int32)) (m := 880) rfl (by omega)), if_pos (own_gtT (u := u1) (k := (893 : Int32)) (m := 893) rfl (by omega)), own_ns_105, if_neg (own_ltF (u := u1) (k := (895 : Int32)) (m := 895) rfl (by omega)), if_pos (own_gtT (u := u1) (k := (8191 : Int32)) (m := 8191) rfl (by omega)), own_ns_119, if_neg (own_ltF (u := u1) (k := (8204 : Int32)) (m := 8204) rfl (by omega)), if_pos (own_gtT (u := u1) (k := (8205 : Int32)) (m := 8205) rfl (by omega)), own_ns_133, if_neg (own_ltF (u := u1) (k := (8304 : Int32)) (m := 8304) rfl (by omega)), if_pos (own_gtT (u := u1) (k := (8591 : Int32)) (m := 8591) rfl (by omega)), own_ns_147, if_neg (own_ltF (u := u1) (k := (11264 : Int32)) (m := 11264) rfl (by omega)), if_pos (own_gtT (u := u1) (k := (12271 : Int32)) (m := 12271) rfl (by omega)), own_ns_161, if_neg (own_ltF (u := u1) (k := (12289 : Int32)) (m := 12289) rfl (by omega)), if_pos (own_gtT (u := u1) (k := (55295 : Int32)) (m := 55295) rfl (by omega)), own_ns_174, if_neg (own_ltF (u := u1) (k := (63744 : Int32)) (m := 63744) rfl (by omega)), if_pos (own_gtT (u := u1) (k := (64975 : Int32)) (m := 64975) rfl (by omega)), own_ns_186, if_neg (own_ltF (u := u1) (k := (65008 : Int32)) (m := 65008) rfl (by omega)), if_pos (own_gtT (u := u1) (k := (65533 : Int32)) (m := 65533) rfl (by omega)), own_ns_198, if_neg (own_ltF (u := u1) (k := (65536 : Int32)) (m := 65536) rfl (by omega)), if_neg (own_gtF (u := u1) (k := (983039 : Int32)) (m := 983039) rfl (by omega))]
  rw [own_ref_0, if_neg (own_ltF (u := u1) (k := (65 : Int32)) (m := 65) rfl (by omega)), if_neg (own_gtF (u := u1) (k := (983039 : Int32)) (m := 983039) rfl (by omega)), if_pos (own_inT (u := u1) (a := (91 : Int32)) (b := (94 : Int32)) (m := 91) (k := 94) rfl rfl (by omega)), if_neg (own_eqF (u := u1) (k := (96 : Int32)) (m := 96) rfl (by omega)), if_pos (own_inT (u := u1) (a := (123 : Int32)) (b := (191 : Int32)) (m := 123) (k := 191) rfl rfl (by omega)), if_neg (own_eqF (u := u1) (k := (215 : Int32)) (m := 215) rfl (by omega)), if_neg (own_eqF (u := u1) (k := (247 : Int32)) (m := 247) rfl (by omega)), if_pos (own_inT (u := u1) (a := (768 : Int32)) (b := (879 : Int32)) (m := 768) (k := 879) rfl rfl (by omega)), if_neg (own_eqF (u := u1) (k := (894 : Int32)) (m := 894) rfl (by omega)), if_pos (own_inT (u := u1) (a := (8192 : Int32)) (b := (8203 : Int32)) (m := 8192) (k := 8203) rfl rfl (by omega)), if_pos (own_inT (u := u1) (a := (8206 : Int32)) (b := (8303 : Int32)) (m := 8206) (k := 8303) rfl rfl (by omega)), if_pos (own_inT (u := u1) (a := (8592 : Int32)) (b := (11263 : Int32)) (m := 8592) (k := 11263) rfl rfl (by omega)), if_pos (own_inT (u := u1) (a := (12272 : Int32)) (b := (12288 : Int32)) (m := 12272) (k := 12288) rfl rfl (by omega)), if_pos (own_inT (u := u1) (a := (55296 : Int32)) (b := (63743 : Int32)) (m := 55296) (k := 63743) rfl rfl (by omega)), if_pos (own_inT (u := u1) (a := (64976 : Int32)) (b := (65007 : Int32)) (m := 64976) (k := 65007) rfl rfl (by omega)), if_pos (own_inT (u := u1) (a := (65534 : Int32)) (b := (65535 : Int32)) (m := 65534) (k := 65535) rfl rfl (by omega)), own_ref_179, if_pos rfl]
theorem own_reg_33 (u1 : Int32) (h1 : 983040 ≤ u1.toInt)  : own_ns_0 u1 = own_ref_0 u1 := by
  rw [own_ns_0, if_neg (own_ltF (u := u1) (k := (128 : Int32)) (m := 128) rfl (by omega)), if_neg (own_ltF (u := u1) (k := (192 : Int32)) (m := 192) rfl (by omega)), if_pos (own_gtT (u := u1) (k := (214 : Int32)) (m := 214) rfl (by omega)), own_ns_63, if_neg (own_ltF (u := u1) (k := (216 : Int32)) (m := 216) rfl (by omega)), if_pos (own_gtT (u := u1) (k := (246 : Int32)) (m := 246) rfl (by omega)), own_ns_77, if_neg (own_ltF (u := u1) (k := (248 : Int32)) (m := 248) rfl (by omega)), if_pos (own_gtT (u := u1) (k := (767 : Int32)) (m := 767) rfl (by omega)), own_ns_91, if_neg (own_ltF (u := u1) (k := (880 : Int32)) (m := 880) rfl (by omega)), if_pos (own_gtT (u := u1) (k := (893 : Int32)) (m := 893) rfl (by omega)), own_ns_105, if_neg (own_ltF (u := u1) (k := (895 : Int32)) (m := 895) rfl (by omega)), if_pos (own_gtT (u := u1) (k := (8191 : Int32)) (m := 8191) rfl (by omega)), own_ns_119, if_neg (own_ltF (u := u1) (k := (8204 : Int32)) (m := 8204) rfl (by omega)), if_pos (own_gtT (u := u1) (k := (8205 : Int32)) (m := 8205) rfl (by omega)), own_ns_133, if_neg (own_ltF (u := u1) (k := (8304 : Int32)) (m := 8304) rfl (by omega)), if_pos (own_gtT (u := u1) (k := (8591 : Int32)) (m := 8591) rfl (by omega)), own_ns_147, if_neg (own_ltF (u := u1) (k := (11264 : Int32)) (m := 11264) rfl (by omega)), if_pos (own_gtT (u := u1) (k := (12271 : Int32)) (m := 12271) rfl (by omega)), own_ns_161, if_neg (own_ltF (u := u1) (k := (12289 : Int32)) (m := 12289) rfl (by omega)), if_pos (own_gtT (u := u1) (k := (55295 : Int32)) (m := 55295) rfl (by omega)), own_ns_174, if_neg (own_ltF (u := u1) (k := (63744 : Int32)) (m := 63744) rfl (by omega)), if_pos (own_gtT (u := u1) (k := (64975 : Int32)) (m := 64975) rfl (by omega)), own_ns_186, if_neg (own_ltF (u := u1) (k := (65008 : Int32)) (m := 65008) rfl (by omega)), if_pos (own_gtT (u := u1) (k := (65533 : Int32)) (m := 65533) rfl (by omega)), own_ns_198, if_neg (own_ltF (u := u1) (k := (65536 : Int32)) (m := 65536) rfl (by omega)), if_pos (own_gtT (u := u1) (k := (983039 : Int32)) (m := 983039) rfl (by omega))]
  rw [own_ref_0, if_neg (own_ltF (u := u1) (k := (65 : Int32)) (m := 65) rfl (by omega)), if_pos (own_gtT (u := u1) (k := (983039 : Int32)) (m := 983039) rfl (by omega))]
theorem own_same (u1 : Int32) : own_ns_0 u1 = own_ref_0 u1 := by
  by_cases h0 : u1.toInt < 58
  · exact own_reg_0 u1 h0
  by_cases h1 : u1.toInt < 59
  · exact own_reg_1 u1 (Int.not_lt.mp h0) h1
  by_cases h2 : u1.toInt < 65
  · exact own_reg_2 u1 (Int.not_lt.mp h1) h2
  by_cases h3 : u1.toInt < 91
  · exact own_reg_3 u1 (Int.not_lt.mp h2) h3
  by_cases h4 : u1.toInt < 95
  · exact own_reg_4 u1 (Int.not_lt.mp h3) h4
  by_cases h5 : u1.toInt < 96
  · exact own_reg_5 u1 (Int.not_lt.mp h4) h5
  by_cases h6 : u1.toInt < 97
  · exact own_reg_6 u1 (Int.not_lt.mp h5) h6
  by_cases h7 : u1.toInt < 123
  · exact own_reg_7 u1 (Int.not_lt.mp h6) h7
  by_cases h8 : u1.toInt < 128
  · exact own_reg_8 u1 (Int.not_lt.mp h7) h8
  by_cases h9 : u1.toInt < 192
  · exact own_reg_9 u1 (Int.not_lt.mp h8) h9
  by_cases h10 : u1.toInt < 215
  · exact own_reg_10 u1 (Int.not_lt.mp h9) h10
  by_cases h11 : u1.toInt < 216
  · exact own_reg_11 u1 (Int.not_lt.mp h10) h11
  by_cases h12 : u1.toInt < 247
  · exact own_reg_12 u1 (Int.not_lt.mp h11) h12
  by_cases h13 : u1.toInt < 248
  · exact own_reg_13 u1 (Int.not_lt.mp h12) h13
  by_cases h14 : u1.toInt < 768
  · exact own_reg_14 u1 (Int.not_lt.mp h13) h14
  by_cases h15 : u1.toInt < 880
  · exact own_reg_15 u1 (Int.not_lt.mp h14) h15
  by_cases h16 : u1.toInt < 894
  · exact own_reg_16 u1 (Int.not_lt.mp h15) h16
  by_cases h17 : u1.toInt < 895
  · exact own_reg_17 u1 (Int.not_lt.mp h16) h17
  by_cases h18 : u1.toInt < 8192
  · exact own_reg_18 u1 (Int.not_lt.mp h17) h18
  by_cases h19 : u1.toInt < 8204
  · exact own_reg_19 u1 (Int.not_lt.mp h18) h19
  by_cases h20 : u1.toInt < 8206
  · exact own_reg_20 u1 (Int.not_lt.mp h19) h20
  by_cases h21 : u1.toInt < 8304
  · exact own_reg_21 u1 (Int.not_lt.mp h20) h21
  by_cases h22 : u1.toInt < 8592
  · exact own_reg_22 u1 (Int.not_lt.mp h21) h22
  by_cases h23 : u1.toInt < 11264
  · exact own_reg_23 u1 (Int.not_lt.mp h22) h23
  by_cases h24 : u1.toInt < 12272
  · exact own_reg_24 u1 (Int.not_lt.mp h23) h24
  by_cases h25 : u1.toInt < 12289
  · exact own_reg_25 u1 (Int.not_lt.mp h24) h25
  by_cases h26 : u1.toInt < 55296
  · exact own_reg_26 u1 (Int.not_lt.mp h25) h26
  by_cases h27 : u1.toInt < 63744
  · exact own_reg_27 u1 (Int.not_lt.mp h26) h27
  by_cases h28 : u1.toInt < 64976
  · exact own_reg_28 u1 (Int.not_lt.mp h27) h28
  by_cases h29 : u1.toInt < 65008
  · exact own_reg_29 u1 (Int.not_lt.mp h28) h29
  by_cases h30 : u1.toInt < 65534
  · exact own_reg_30 u1 (Int.not_lt.mp h29) h30
  by_cases h31 : u1.toInt < 65536
  · exact own_reg_31 u1 (Int.not_lt.mp h30) h31
  by_cases h32 : u1.toInt < 983040
  · exact own_reg_32 u1 (Int.not_lt.mp h31) h32
  exact own_reg_33 u1 (Int.not_lt.mp h32)
theorem own_idx (x : Int32) : ¬ ((x &&& (2147483647 : Int32)) % (35 : Int32)) < 0 ∧ ((x &&& (2147483647 : Int32)) % (35 : Int32)).toNatClampNeg < (35 : Int32).toNatClampNeg := by
  have h0 : 0 ≤ (x &&& (2147483647 : Int32)).toInt := by rw [Jvm.Kit.i32_mask x 2147483647 (k := 31) (by decide) (by decide)]; omega
  have h : ((x &&& (2147483647 : Int32)) % (35 : Int32)).toInt = (x &&& (2147483647 : Int32)).toInt % 35 := Jvm.Kit.i32_rem_nonneg h0
  refine ⟨?_, ?_⟩
  · rw [Int32.lt_iff_toInt_lt, h]; show ¬ _ < (0 : Int); omega
  · show ((x &&& (2147483647 : Int32)) % (35 : Int32)).toInt.toNat < 35; rw [h]; omega
def own_AI (Z : State) (h : Heap) (a : Addr) (z : Int32) : Prop := ∃ c : Cell, Arr Z h a c .int ∧ c.slots.size = z.toNatClampNeg ∧ ¬ z < 0 ∧ ∀ k, k < z.toNatClampNeg → ∃ w : Int32, c.slots[k]? = some (.int w)
theorem own_AInew {Z : State} {h : Heap} {a : Addr} {k : ClassId} {z : Int32} (A : Arr Z h a (newA k .int z) .int) (q : ¬ z < 0) : own_AI Z h a z := by
  obtain ⟨c, A2, -, S, M, H, -⟩ := Arv.new A q
  exact ⟨c, A2, S, M, fun k hk => ⟨0, by rw [H k (by rw [S]; exact hk)]; rfl⟩⟩
theorem own_AIset {Z : State} {h h' : Heap} {a : Addr} {z x : Int32} {c : Cell} {j : Nat} (A : Arr Z h a c .int) (S : c.slots.size = z.toNatClampNeg) (M : ¬ z < 0) (H : ∀ k, k < z.toNatClampNeg → ∃ w : Int32, c.slots[k]? = some (.int w)) (W : Wr h h' a j (.int x)) : own_AI Z h' a z := by
  refine ⟨c.setSlot j (.int x), A.same W, by rw [sz_set]; exact S, M, fun k hk => ?_⟩
  by_cases e : j = k
  · subst e
    exact ⟨x, by simp [Cell.setSlot, S, hk]⟩
  · obtain ⟨w, hw⟩ := H k hk
    exact ⟨w, by simp [Cell.setSlot, Array.getElem?_setIfInBounds, e, hw]⟩
theorem pd__28I_29Z : parseMethodDescriptor "(I)Z" = some ⟨[.int], some .boolean⟩ := by decide +kernel
theorem pn_0 : plainName "com/example/kdata/kdata/XmlCharsIsNameStartCharPinLaw" = true := by first | (simp [plainName, overriddenIn]; done) | decide +kernel
theorem ef_0 (m : MethodId) (x0 : Int32) (x1 : Int32) (x2 : Int32) : entryFrame m #[(.int x0), (.int x1), (.int x2)] maxLocals = mkF m 0 #[.val (.int x0), .val (.int x1), .val (.int x2), .unset, .unset, .unset, .unset] [] := by first | (simp [entryFrame, mkF, argsToLocals, Value.category, maxLocals]; done) | rfl
def Q0 (p1 : Int32) (p2 : Int32) (p3 : Int32) (h0 : Heap) (n0 : Nat) (v : Option Value) (h : Heap) (L : List Loc) : Prop := v = some (.int 1) ∧ Fr n0 L
set_option maxRecDepth 65536 in
set_option maxHeartbeats 40000000 in
theorem rm0 (l : Launch) (Z : State) (a0 : Array Value) (hw : ∀ d ∈ tables_1, d.before a0 Z = true) (ws : List Jvm.Cond) (p1 : Int32) (p2 : Int32) (p3 : Int32) (h0 : Heap) (n0 : Nat) (Z0 : n0 ≤ h0.size)  :
    MetFree l x (head1 (Jvm.Cond.code x code maxLocals ret :: ws) room_1) (fun a U => a = #[(.int p1), (.int p2), (.int p3)] ∧ Z.Warmed39 U.vm ∧ U.heap = h0) (fun _ _ _ _ _ => True) (fun _ U o U' => ∃ v L, o = .returned v ∧ Q0 p1 p2 p3 h0 n0 v U'.heap L ∧ FrameEnd U o U' L 16 192) := by
  refine MetFree.of_bodySF (plainFor_of_name pn_0) hisR ?_
  intro p e s m args below meth c s₁ Bd hml0 hP hK
  obtain ⟨rfl, hZ, hh⟩ := hP
  have hx := Bd.exec
  have hby := Bd.bytes
  have hml : c.maxLocals = 7 := hml0
  have hown : s.vm.findClass "com/example/kdata/kdata/XmlCharsIsNameStartCharPinLaw" = some m.cls := findClass_of_methodNamed Bd.named
  have hnm := (name_of_methodNamed Bd.named Bd.method).1
  have X0 : Stand p l e room_1 s m #[(.int p1), (.int p2), (.int p3)] below meth c s₁ [] 0 0 := Stand.of_body Bd
  have e0 : s₁.heap = h0 := by rw [← hh, Bd.state]; rfl
  have N0 := Fr.nil n0
  show own_Go p e below s (Q0 p1 p2 p3 h0 n0) 16 192 (s₁.setTop (entryFrame m #[(.int p1), (.int p2), (.int p3)] maxLocals))
  refine own_go (b := s₁.setTop (mkF m 0 #[.val (.int p1), .val (.int p2), .val (.int p3), .unset, .unset, .unset, .unset] [])) (fun t k => castTop (ef_0 m p1 p2 p3) k) ?_
  have J226 : ∀ (T : State) (lc : List Loc) (hh : Heap) (a9 : Addr), Stand p l e room_1 s m #[(.int p1), (.int p2), (.int p3)] below meth c T lc 1 35 → Fr n0 lc → T.heap = hh → n0 ≤ hh.size → own_AI Z hh a9 (35 : Int32) → own_Go p e below s (Q0 p1 p2 p3 h0 n0) 16 192 (T.setTop (mkF m 226 #[.val (.int p1), .val (.int p2), .val (.int p3), .val (.ref a9), .unset, .unset, .unset] [])) := by
    intro T lc hh a9 X N eT ZZ V
    obtain ⟨cl1, Ar1, S1, M1, H1⟩ := id V
    have hi2 : ¬ ((p2 &&& (2147483647 : Int32)) % (35 : Int32)) < 0 ∧ ((p2 &&& (2147483647 : Int32)) % (35 : Int32)).toNatClampNeg < (35 : Int32).toNatClampNeg := (own_idx _)
    obtain ⟨w2, ha2⟩ := H1 _ hi2.2
    obtain ⟨_, _, ⟨T3, uL3, uk3, un3⟩, -, X3, ⟨Lc3, hQ3, ul3, uy3, uz3⟩, st3⟩ := Jvm.LawKit.callS X hx (y := (⟨"com/example/kdata/kdata/XmlChars", "isNameStartChar", "(I)Z"⟩ : MethodName)) hown (mvT hZ (hw _ (List.mem_of_getElem? (i := 11) rfl))) (mvT hZ (hw _ (List.mem_of_getElem? (i := 12) rfl))) (mvT hZ (hw _ (List.mem_of_getElem? (i := 13) rfl))) (mvT hZ (hw _ (List.mem_of_getElem? (i := 14) rfl))) (by decide) (backOf (W := 0) (rm3 l Z a0 hw [] p1 hh n0 ZZ ) hZ (hw _ (List.mem_of_getElem? (i := 14) rfl)) (hw _ (List.mem_of_getElem? (i := 13) rfl)) (by decide) (by decide)) (g := (mkF m 247 #[.val (.int p1), .val (.int p2), .val (.int p3), .val (.ref a9), .val (.int ((w2 + ((p3 &&& (2147483647 : Int32)) % (3 : Int32))) - (1 : Int32))), .unset, .unset] [(.int p1)])) rfl (by rw [hml]; rfl) (argsL := [(.int p1)]) (rest := []) (lenOf pd__28I_29Z rfl) rfl (by show 2 * 0 + _ ≤ _; exact Nat.le_of_eq rfl) (hb hby at_247) (fun _ _ => ⟨rfl, eT, (by decide : 1 + 0 ≤ _), (by decide : 35 + 0 ≤ _)⟩)
    dsimp only [Pt.U, Pt.locs, Pt.cells, Pt.slots] at X3 ul3 uy3 uz3 st3 hQ3
    subst ul3 uy3 uz3
    obtain ⟨rfl, Nq3, e3⟩ := hQ3
    have N3 := Fr.app N Nq3
    obtain ⟨_, _, ⟨T4, uL4, uk4, un4⟩, -, X4, ⟨Lc4, hQ4, ul4, uy4, uz4⟩, st4⟩ := Jvm.LawKit.callS X3 hx (y := (⟨"com/example/kdata/kdata/XmlCharsIsNameStartCharPinLaw", "ref", "(I)Z"⟩ : MethodName)) hown (mvT hZ (hw _ (List.mem_of_getElem? (i := 15) rfl))) (mvT hZ (hw _ (List.mem_of_getElem? (i := 16) rfl))) (mvT hZ (hw _ (List.mem_of_getElem? (i := 17) rfl))) (mvT hZ (hw _ (List.mem_of_getElem? (i := 18) rfl))) (by decide) (backOf (W := 1) (rm2 l Z a0 hw [] p1 hh n0 ZZ ) hZ (hw _ (List.mem_of_getElem? (i := 18) rfl)) (hw _ (List.mem_of_getElem? (i := 17) rfl)) (by decide) (by decide)) (g := (mkF m 251 #[.val (.int p1), .val (.int p2), .val (.int p3), .val (.ref a9), .val (.int ((w2 + ((p3 &&& (2147483647 : Int32)) % (3 : Int32))) - (1 : Int32))), .unset, .unset] [(.int p1), (.int (own_ns_0 p1))])) rfl (by rw [hml]; rfl) (argsL := [(.int p1)]) (rest := [(.int (own_ns_0 p1))]) (lenOf pd__28I_29Z rfl) rfl (by show 2 * 0 + _ ≤ _; exact Nat.le_of_eq rfl) (hb hby at_251) (fun _ _ => ⟨rfl, e3, (by decide : 1 + 0 ≤ _), (by decide : 35 + 0 ≤ _)⟩)
    dsimp only [Pt.U, Pt.locs, Pt.cells, Pt.slots] at X4 ul4 uy4 uz4 st4 hQ4
    subst ul4 uy4 uz4
    obtain ⟨rfl, Nq4, e4⟩ := hQ4
    have N4 := Fr.app N3 Nq4
    have hc254_5 : (own_ns_0 p1) = (own_ref_0 p1) := own_same _
    obtain ⟨_, _, ⟨T6, uL6, uk6, un6⟩, -, X6, ⟨Lc6, hQ6, ul6, uy6, uz6⟩, st6⟩ := Jvm.LawKit.callS X4 hx (y := (⟨"com/example/kdata/kdata/XmlChars", "isNameStartChar", "(I)Z"⟩ : MethodName)) hown (mvT hZ (hw _ (List.mem_of_getElem? (i := 11) rfl))) (mvT hZ (hw _ (List.mem_of_getElem? (i := 12) rfl))) (mvT hZ (hw _ (List.mem_of_getElem? (i := 13) rfl))) (mvT hZ (hw _ (List.mem_of_getElem? (i := 14) rfl))) (by decide) (backOf (W := 0) (rm3 l Z a0 hw [] ((w2 + ((p3 &&& (2147483647 : Int32)) % (3 : Int32))) - (1 : Int32)) hh n0 ZZ ) hZ (hw _ (List.mem_of_getElem? (i := 14) rfl)) (hw _ (List.mem_of_getElem? (i := 13) rfl)) (by decide) (by decide)) (g := (mkF m 266 #[.val (.int p1), .val (.int p2), .val (.int p3), .val (.ref a9), .val (.int ((w2 + ((p3 &&& (2147483647 : Int32)) % (3 : Int32))) - (1 : Int32))), .val (.int (1 : Int32)), .unset] [(.int ((w2 + ((p3 &&& (2147483647 : Int32)) % (3 : Int32))) - (1 : Int32)))])) rfl (by rw [hml]; rfl) (argsL := [(.int ((w2 + ((p3 &&& (2147483647 : Int32)) % (3 : Int32))) - (1 : Int32)))]) (rest := []) (lenOf pd__28I_29Z rfl) rfl (by show 2 * 0 + _ ≤ _; exact Nat.le_of_eq rfl) (hb hby at_266) (fun _ _ => ⟨rfl, e4, (by decide : 1 + 0 ≤ _), (by decide : 35 + 0 ≤ _)⟩)
    dsimp only [Pt.U, Pt.locs, Pt.cells, Pt.slots] at X6 ul6 uy6 uz6 st6 hQ6
    subst ul6 uy6 uz6
    obtain ⟨rfl, Nq6, e6⟩ := hQ6
    have N6 := Fr.app N4 Nq6
    obtain ⟨_, _, ⟨T7, uL7, uk7, un7⟩, -, X7, ⟨Lc7, hQ7, ul7, uy7, uz7⟩, st7⟩ := Jvm.LawKit.callS X6 hx (y := (⟨"com/example/kdata/kdata/XmlCharsIsNameStartCharPinLaw", "ref", "(I)Z"⟩ : MethodName)) hown (mvT hZ (hw _ (List.mem_of_getElem? (i := 15) rfl))) (mvT hZ (hw _ (List.mem_of_getElem? (i := 16) rfl))) (mvT hZ (hw _ (List.mem_of_getElem? (i := 17) rfl))) (mvT hZ (hw _ (List.mem_of_getElem? (i := 18) rfl))) (by decide) (backOf (W := 1) (rm2 l Z a0 hw [] ((w2 + ((p3 &&& (2147483647 : Int32)) % (3 : Int32))) - (1 : Int32)) hh n0 ZZ ) hZ (hw _ (List.mem_of_getElem? (i := 18) rfl)) (hw _ (List.mem_of_getElem? (i := 17) rfl)) (by decide) (by decide)) (g := (mkF m 271 #[.val (.int p1), .val (.int p2), .val (.int p3), .val (.ref a9), .val (.int ((w2 + ((p3 &&& (2147483647 : Int32)) % (3 : Int32))) - (1 : Int32))), .val (.int (1 : Int32)), .unset] [(.int ((w2 + ((p3 &&& (2147483647 : Int32)) % (3 : Int32))) - (1 : Int32))), (.int (own_ns_0 ((w2 + ((p3 &&& (2147483647 : Int32)) % (3 : Int32))) - (1 : Int32))))])) rfl (by rw [hml]; rfl) (argsL := [(.int ((w2 + ((p3 &&& (2147483647 : Int32)) % (3 : Int32))) - (1 : Int32)))]) (rest := [(.int (own_ns_0 ((w2 + ((p3 &&& (2147483647 : Int32)) % (3 : Int32))) - (1 : Int32))))]) (lenOf pd__28I_29Z rfl) rfl (by show 2 * 0 + _ ≤ _; exact Nat.le_of_eq rfl) (hb hby at_271) (fun _ _ => ⟨rfl, e6, (by decide : 1 + 0 ≤ _), (by decide : 35 + 0 ≤ _)⟩)
    dsimp only [Pt.U, Pt.locs, Pt.cells, Pt.slots] at X7 ul7 uy7 uz7 st7 hQ7
    subst ul7 uy7 uz7
    obtain ⟨rfl, Nq7, e7⟩ := hQ7
    have N7 := Fr.app N6 Nq7
    have hc274_8 : (own_ns_0 ((w2 + ((p3 &&& (2147483647 : Int32)) % (3 : Int32))) - (1 : Int32))) = (own_ref_0 ((w2 + ((p3 &&& (2147483647 : Int32)) % (3 : Int32))) - (1 : Int32))) := own_same _
    have hc286_9 : ¬ ((1 : Int32) = (0 : Int32)) := (by decide)
    have hc291_10 : ¬ ((1 : Int32) = (0 : Int32)) := (by decide)
    refine own_end X7 Bd.notSynchronized (v := some (.int (1 : Int32))) (fun h => by rw [Bd.returns] at h; cases h) (fun fs hr => ?_) e7 ?_ (by decide) (by decide)
    · show Steps p.tables e below (T.setTop (mkF m 226 #[.val (.int p1), .val (.int p2), .val (.int p3), .val (.ref a9), .unset, .unset, .unset] [])) _
      refine XS.aloadN X.here hx rfl (hb hby at_226) rfl rfl ?_
      show Steps p.tables e below (T.setTop (mkF m 227 #[.val (.int p1), .val (.int p2), .val (.int p3), .val (.ref a9), .unset, .unset, .unset] [(.ref a9)])) _
      refine XS.iloadN X.here hx rfl (hb hby at_227) rfl ?_
      show Steps p.tables e below (T.setTop (mkF m 228 #[.val (.int p1), .val (.int p2), .val (.int p3), .val (.ref a9), .unset, .unset, .unset] [(.int p2), (.ref a9)])) _
      refine X.ldcI hx hown (mvT hZ (hw _ (List.mem_of_getElem? (i := 10) rfl))) rfl (hb hby at_228) ?_
      show Steps p.tables e below (T.setTop (mkF m 230 #[.val (.int p1), .val (.int p2), .val (.int p3), .val (.ref a9), .unset, .unset, .unset] [(.int (2147483647 : Int32)), (.int p2), (.ref a9)])) _
      refine XS.iand X.here hx rfl (hb hby at_230) rfl ?_
      show Steps p.tables e below (T.setTop (mkF m 231 #[.val (.int p1), .val (.int p2), .val (.int p3), .val (.ref a9), .unset, .unset, .unset] [(.int (p2 &&& (2147483647 : Int32))), (.ref a9)])) _
      refine XS.aloadN X.here hx rfl (hb hby at_231) rfl rfl ?_
      show Steps p.tables e below (T.setTop (mkF m 232 #[.val (.int p1), .val (.int p2), .val (.int p3), .val (.ref a9), .unset, .unset, .unset] [(.ref a9), (.int (p2 &&& (2147483647 : Int32))), (.ref a9)])) _
      refine X.arraylength hx (cell := cl1) (by rw [eT]; exact Ar1.1) (State.isArrayOf_alike hZ.alike Ar1.2.1) (g := (mkF m 232 #[.val (.int p1), .val (.int p2), .val (.int p3), .val (.ref a9), .unset, .unset, .unset] [(.ref a9), (.int (p2 &&& (2147483647 : Int32))), (.ref a9)])) rfl (rest := [(.int (p2 &&& (2147483647 : Int32))), (.ref a9)]) rfl (hb hby at_232) _ ?_
      rw [len_of S1 M1]
      show Steps p.tables e below (T.setTop (mkF m 233 #[.val (.int p1), .val (.int p2), .val (.int p3), .val (.ref a9), .unset, .unset, .unset] [(.int (35 : Int32)), (.int (p2 &&& (2147483647 : Int32))), (.ref a9)])) _
      refine iremM X hx rfl (hb hby at_233) rfl (by decide) ?_
      show Steps p.tables e below (T.setTop (mkF m 234 #[.val (.int p1), .val (.int p2), .val (.int p3), .val (.ref a9), .unset, .unset, .unset] [(.int ((p2 &&& (2147483647 : Int32)) % (35 : Int32))), (.ref a9)])) _
      refine X.iaload hx (j := ((p2 &&& (2147483647 : Int32)) % (35 : Int32))) (v := (.int w2)) (by rw [eT]; exact Ar1.1) (State.isArrayOf_alike hZ.alike Ar1.2.1) Ar1.2.2 (own_hin S1 hi2) ha2 (g := (mkF m 234 #[.val (.int p1), .val (.int p2), .val (.int p3), .val (.ref a9), .unset, .unset, .unset] [(.int ((p2 &&& (2147483647 : Int32)) % (35 : Int32))), (.ref a9)])) rfl rfl (hb hby at_234) _ ?_
      show Steps p.tables e below (T.setTop (mkF m 235 #[.val (.int p1), .val (.int p2), .val (.int p3), .val (.ref a9), .unset, .unset, .unset] [(.int w2)])) _
      refine XS.iloadN X.here hx rfl (hb hby at_235) rfl ?_
      show Steps p.tables e below (T.setTop (mkF m 236 #[.val (.int p1), .val (.int p2), .val (.int p3), .val (.ref a9), .unset, .unset, .unset] [(.int p3), (.int w2)])) _
      refine X.ldcI hx hown (mvT hZ (hw _ (List.mem_of_getElem? (i := 10) rfl))) rfl (hb hby at_236) ?_
      show Steps p.tables e below (T.setTop (mkF m 238 #[.val (.int p1), .val (.int p2), .val (.int p3), .val (.ref a9), .unset, .unset, .unset] [(.int (2147483647 : Int32)), (.int p3), (.int w2)])) _
      refine XS.iand X.here hx rfl (hb hby at_238) rfl ?_
      show Steps p.tables e below (T.setTop (mkF m 239 #[.val (.int p1), .val (.int p2), .val (.int p3), .val (.ref a9), .unset, .unset, .unset] [(.int (p3 &&& (2147483647 : Int32))), (.int w2)])) _
      refine XS.iconst X.here hx rfl (hb hby at_239) ?_
      show Steps p.tables e below (T.setTop (mkF m 240 #[.val (.int p1), .val (.int p2), .val (.int p3), .val (.ref a9), .unset, .unset, .unset] [(.int (3 : Int32)), (.int (p3 &&& (2147483647 : Int32))), (.int w2)])) _
      refine iremM X hx rfl (hb hby at_240) rfl (by decide) ?_
      show Steps p.tables e below (T.setTop (mkF m 241 #[.val (.int p1), .val (.int p2), .val (.int p3), .val (.ref a9), .unset, .unset, .unset] [(.int ((p3 &&& (2147483647 : Int32)) % (3 : Int32))), (.int w2)])) _
      refine XS.iadd X.here hx rfl (hb hby at_241) rfl ?_
      show Steps p.tables e below (T.setTop (mkF m 242 #[.val (.int p1), .val (.int p2), .val (.int p3), .val (.ref a9), .unset, .unset, .unset] [(.int (w2 + ((p3 &&& (2147483647 : Int32)) % (3 : Int32))))])) _
      refine XS.iconst X.here hx rfl (hb hby at_242) ?_
      show Steps p.tables e below (T.setTop (mkF m 243 #[.val (.int p1), .val (.int p2), .val (.int p3), .val (.ref a9), .unset, .unset, .unset] [(.int (1 : Int32)), (.int (w2 + ((p3 &&& (2147483647 : Int32)) % (3 : Int32))))])) _
      refine XS.isub X.here hx rfl (hb hby at_243) rfl ?_
      show Steps p.tables e below (T.setTop (mkF m 244 #[.val (.int p1), .val (.int p2), .val (.int p3), .val (.ref a9), .unset, .unset, .unset] [(.int ((w2 + ((p3 &&& (2147483647 : Int32)) % (3 : Int32))) - (1 : Int32)))])) _
      refine XS.istore X.here hx rfl (hb hby at_244) rfl (l' := #[.val (.int p1), .val (.int p2), .val (.int p3), .val (.ref a9), .val (.int ((w2 + ((p3 &&& (2147483647 : Int32)) % (3 : Int32))) - (1 : Int32))), .unset, .unset]) rfl ?_
      show Steps p.tables e below (T.setTop (mkF m 246 #[.val (.int p1), .val (.int p2), .val (.int p3), .val (.ref a9), .val (.int ((w2 + ((p3 &&& (2147483647 : Int32)) % (3 : Int32))) - (1 : Int32))), .unset, .unset] [])) _
      refine XS.iloadN X.here hx rfl (hb hby at_246) rfl ?_
      show Steps p.tables e below (T.setTop (mkF m 247 #[.val (.int p1), .val (.int p2), .val (.int p3), .val (.ref a9), .val (.int ((w2 + ((p3 &&& (2147483647 : Int32)) % (3 : Int32))) - (1 : Int32))), .unset, .unset] [(.int p1)])) _
      refine st3 _ ?_
      show Steps p.tables e below (T3.setTop (mkF m 250 #[.val (.int p1), .val (.int p2), .val (.int p3), .val (.ref a9), .val (.int ((w2 + ((p3 &&& (2147483647 : Int32)) % (3 : Int32))) - (1 : Int32))), .unset, .unset] [(.int (own_ns_0 p1))])) _
      refine XS.iloadN X3.here hx rfl (hb hby at_250) rfl ?_
      show Steps p.tables e below (T3.setTop (mkF m 251 #[.val (.int p1), .val (.int p2), .val (.int p3), .val (.ref a9), .val (.int ((w2 + ((p3 &&& (2147483647 : Int32)) % (3 : Int32))) - (1 : Int32))), .unset, .unset] [(.int p1), (.int (own_ns_0 p1))])) _
      refine st4 _ ?_
      show Steps p.tables e below (T4.setTop (mkF m 254 #[.val (.int p1), .val (.int p2), .val (.int p3), .val (.ref a9), .val (.int ((w2 + ((p3 &&& (2147483647 : Int32)) % (3 : Int32))) - (1 : Int32))), .unset, .unset] [(.int (own_ref_0 p1)), (.int (own_ns_0 p1))])) _
      refine XS.icmpNo X4.here hx rfl (hb hby at_254) rfl (teq hc254_5).2 ?_
      show Steps p.tables e below (T4.setTop (mkF m 257 #[.val (.int p1), .val (.int p2), .val (.int p3), .val (.ref a9), .val (.int ((w2 + ((p3 &&& (2147483647 : Int32)) % (3 : Int32))) - (1 : Int32))), .unset, .unset] [])) _
      refine XS.iconst X4.here hx rfl (hb hby at_257) ?_
      show Steps p.tables e below (T4.setTop (mkF m 258 #[.val (.int p1), .val (.int p2), .val (.int p3), .val (.ref a9), .val (.int ((w2 + ((p3 &&& (2147483647 : Int32)) % (3 : Int32))) - (1 : Int32))), .unset, .unset] [(.int (1 : Int32))])) _
      refine XS.goto X4.here hx rfl (pc0 := 258) (pc' := 262) rfl (hb hby at_258) (by decide) (by decide) ?_
      show Steps p.tables e below (T4.setTop (mkF m 262 #[.val (.int p1), .val (.int p2), .val (.int p3), .val (.ref a9), .val (.int ((w2 + ((p3 &&& (2147483647 : Int32)) % (3 : Int32))) - (1 : Int32))), .unset, .unset] [(.int (1 : Int32))])) _
      refine XS.istore X4.here hx rfl (hb hby at_262) rfl (l' := #[.val (.int p1), .val (.int p2), .val (.int p3), .val (.ref a9), .val (.int ((w2 + ((p3 &&& (2147483647 : Int32)) % (3 : Int32))) - (1 : Int32))), .val (.int (1 : Int32)), .unset]) rfl ?_
      show Steps p.tables e below (T4.setTop (mkF m 264 #[.val (.int p1), .val (.int p2), .val (.int p3), .val (.ref a9), .val (.int ((w2 + ((p3 &&& (2147483647 : Int32)) % (3 : Int32))) - (1 : Int32))), .val (.int (1 : Int32)), .unset] [])) _
      refine XS.iload X4.here hx rfl (hb hby at_264) rfl ?_
      show Steps p.tables e below (T4.setTop (mkF m 266 #[.val (.int p1), .val (.int p2), .val (.int p3), .val (.ref a9), .val (.int ((w2 + ((p3 &&& (2147483647 : Int32)) % (3 : Int32))) - (1 : Int32))), .val (.int (1 : Int32)), .unset] [(.int ((w2 + ((p3 &&& (2147483647 : Int32)) % (3 : Int32))) - (1 : Int32)))])) _
      refine st6 _ ?_
      show Steps p.tables e below (T6.setTop (mkF m 269 #[.val (.int p1), .val (.int p2), .val (.int p3), .val (.ref a9), .val (.int ((w2 + ((p3 &&& (2147483647 : Int32)) % (3 : Int32))) - (1 : Int32))), .val (.int (1 : Int32)), .unset] [(.int (own_ns_0 ((w2 + ((p3 &&& (2147483647 : Int32)) % (3 : Int32))) - (1 : Int32))))])) _
      refine XS.iload X6.here hx rfl (hb hby at_269) rfl ?_
      show Steps p.tables e below (T6.setTop (mkF m 271 #[.val (.int p1), .val (.int p2), .val (.int p3), .val (.ref a9), .val (.int ((w2 + ((p3 &&& (2147483647 : Int32)) % (3 : Int32))) - (1 : Int32))), .val (.int (1 : Int32)), .unset] [(.int ((w2 + ((p3 &&& (2147483647 : Int32)) % (3 : Int32))) - (1 : Int32))), (.int (own_ns_0 ((w2 + ((p3 &&& (2147483647 : Int32)) % (3 : Int32))) - (1 : Int32))))])) _
      refine st7 _ ?_
      show Steps p.tables e below (T7.setTop (mkF m 274 #[.val (.int p1), .val (.int p2), .val (.int p3), .val (.ref a9), .val (.int ((w2 + ((p3 &&& (2147483647 : Int32)) % (3 : Int32))) - (1 : Int32))), .val (.int (1 : Int32)), .unset] [(.int (own_ref_0 ((w2 + ((p3 &&& (2147483647 : Int32)) % (3 : Int32))) - (1 : Int32)))), (.int (own_ns_0 ((w2 + ((p3 &&& (2147483647 : Int32)) % (3 : Int32))) - (1 : Int32))))])) _
      refine XS.icmpNo X7.here hx rfl (hb hby at_274) rfl (teq hc274_8).2 ?_
      show Steps p.tables e below (T7.setTop (mkF m 277 #[.val (.int p1), .val (.int p2), .val (.int p3), .val (.ref a9), .val (.int ((w2 + ((p3 &&& (2147483647 : Int32)) % (3 : Int32))) - (1 : Int32))), .val (.int (1 : Int32)), .unset] [])) _
      refine XS.iconst X7.here hx rfl (hb hby at_277) ?_
      show Steps p.tables e below (T7.setTop (mkF m 278 #[.val (.int p1), .val (.int p2), .val (.int p3), .val (.ref a9), .val (.int ((w2 + ((p3 &&& (2147483647 : Int32)) % (3 : Int32))) - (1 : Int32))), .val (.int (1 : Int32)), .unset] [(.int (1 : Int32))])) _
      refine XS.goto X7.here hx rfl (pc0 := 278) (pc' := 282) rfl (hb hby at_278) (by decide) (by decide) ?_
      show Steps p.tables e below (T7.setTop (mkF m 282 #[.val (.int p1), .val (.int p2), .val (.int p3), .val (.ref a9), .val (.int ((w2 + ((p3 &&& (2147483647 : Int32)) % (3 : Int32))) - (1 : Int32))), .val (.int (1 : Int32)), .unset] [(.int (1 : Int32))])) _
      refine XS.istore X7.here hx rfl (hb hby at_282) rfl (l' := #[.val (.int p1), .val (.int p2), .val (.int p3), .val (.ref a9), .val (.int ((w2 + ((p3 &&& (2147483647 : Int32)) % (3 : Int32))) - (1 : Int32))), .val (.int (1 : Int32)), .val (.int (1 : Int32))]) rfl ?_
      show Steps p.tables e below (T7.setTop (mkF m 284 #[.val (.int p1), .val (.int p2), .val (.int p3), .val (.ref a9), .val (.int ((w2 + ((p3 &&& (2147483647 : Int32)) % (3 : Int32))) - (1 : Int32))), .val (.int (1 : Int32)), .val (.int (1 : Int32))] [])) _
      refine XS.iload X7.here hx rfl (hb hby at_284) rfl ?_
      show Steps p.tables e below (T7.setTop (mkF m 286 #[.val (.int p1), .val (.int p2), .val (.int p3), .val (.ref a9), .val (.int ((w2 + ((p3 &&& (2147483647 : Int32)) % (3 : Int32))) - (1 : Int32))), .val (.int (1 : Int32)), .val (.int (1 : Int32))] [(.int (1 : Int32))])) _
      refine XS.ifNo X7.here hx rfl (hb hby at_286) rfl ((if0 _ _).trans (feq hc286_9).1) ?_
      show Steps p.tables e below (T7.setTop (mkF m 289 #[.val (.int p1), .val (.int p2), .val (.int p3), .val (.ref a9), .val (.int ((w2 + ((p3 &&& (2147483647 : Int32)) % (3 : Int32))) - (1 : Int32))), .val (.int (1 : Int32)), .val (.int (1 : Int32))] [])) _
      refine XS.iload X7.here hx rfl (hb hby at_289) rfl ?_
      show Steps p.tables e below (T7.setTop (mkF m 291 #[.val (.int p1), .val (.int p2), .val (.int p3), .val (.ref a9), .val (.int ((w2 + ((p3 &&& (2147483647 : Int32)) % (3 : Int32))) - (1 : Int32))), .val (.int (1 : Int32)), .val (.int (1 : Int32))] [(.int (1 : Int32))])) _
      refine XS.ifNo X7.here hx rfl (hb hby at_291) rfl ((if0 _ _).trans (feq hc291_10).1) ?_
      show Steps p.tables e below (T7.setTop (mkF m 294 #[.val (.int p1), .val (.int p2), .val (.int p3), .val (.ref a9), .val (.int ((w2 + ((p3 &&& (2147483647 : Int32)) % (3 : Int32))) - (1 : Int32))), .val (.int (1 : Int32)), .val (.int (1 : Int32))] [])) _
      refine XS.iconst X7.here hx rfl (hb hby at_294) ?_
      show Steps p.tables e below (T7.setTop (mkF m 295 #[.val (.int p1), .val (.int p2), .val (.int p3), .val (.ref a9), .val (.int ((w2 + ((p3 &&& (2147483647 : Int32)) % (3 : Int32))) - (1 : Int32))), .val (.int (1 : Int32)), .val (.int (1 : Int32))] [(.int (1 : Int32))])) _
      refine XS.goto X7.here hx rfl (pc0 := 295) (pc' := 299) rfl (hb hby at_295) (by decide) (by decide) ?_
      show Steps p.tables e below (T7.setTop (mkF m 299 #[.val (.int p1), .val (.int p2), .val (.int p3), .val (.ref a9), .val (.int ((w2 + ((p3 &&& (2147483647 : Int32)) % (3 : Int32))) - (1 : Int32))), .val (.int (1 : Int32)), .val (.int (1 : Int32))] [(.int (1 : Int32))])) _
      exact retN X7 hx (t := .boolean) Bd.returns (by simp) (hb hby at_299) hr
    · exact ⟨rfl, N7⟩
  obtain ⟨T11, h11, k11, X11, e11, E11, A11, st11⟩ := newP X0 hx hZ (hw _ (List.mem_of_getElem? (i := 0) rfl)) e0 (g := (mkF m 2 #[.val (.int p1), .val (.int p2), .val (.int p3), .unset, .unset, .unset, .unset] [(.int (35 : Int32))])) rfl (hb hby at_2) rfl (by decide) (cap := 35) (by decide) (by decide) (by decide) (by decide)
  obtain ⟨a11, ga11⟩ : ∃ z, z = h0.size := ⟨_, rfl⟩
  rw [← ga11] at A11 st11
  have lo11 : n0 ≤ a11 := Nat.le_trans Z0 (Nat.le_of_eq ga11.symm)
  have Z11 : n0 ≤ h11.size := Nat.le_trans Z0 E11.1
  have V11 : own_AI Z h11 a11 (35 : Int32) := own_AInew A11 (by decide)
  obtain ⟨cl12, Ar12, S12, M12, H12⟩ := id V11
  obtain ⟨T13, h13, X13, e13, W13, st13⟩ := stI X11 hx hZ e11 Ar12 (j := (0 : Int32)) (by rw [S12]; decide) (g := (mkF m 7 #[.val (.int p1), .val (.int p2), .val (.int p3), .unset, .unset, .unset, .unset] [(.int (0 : Int32)), (.int (0 : Int32)), (.ref a11), (.ref a11)])) rfl rfl (hb hby at_7)
  have N13 := Fr.snoc X13 N0 lo11
  have V13 : own_AI Z h13 a11 (35 : Int32) := own_AIset Ar12 S12 M12 H12 W13
  have Z13 : n0 ≤ h13.size := by rw [W13.size]; exact Z11
  obtain ⟨cl14, Ar14, S14, M14, H14⟩ := id V13
  obtain ⟨T15, h15, X15, e15, W15, st15⟩ := stI X13 hx hZ e13 Ar14 (j := (1 : Int32)) (by rw [S14]; decide) (g := (mkF m 12 #[.val (.int p1), .val (.int p2), .val (.int p3), .unset, .unset, .unset, .unset] [(.int (58 : Int32)), (.int (1 : Int32)), (.ref a11), (.ref a11)])) rfl rfl (hb hby at_12)
  have N15 := Fr.snoc X15 N13 lo11
  have V15 : own_AI Z h15 a11 (35 : Int32) := own_AIset Ar14 S14 M14 H14 W15
  have Z15 : n0 ≤ h15.size := by rw [W15.size]; exact Z13
  obtain ⟨cl16, Ar16, S16, M16, H16⟩ := id V15
  obtain ⟨T17, h17, X17, e17, W17, st17⟩ := stI X15 hx hZ e15 Ar16 (j := (2 : Int32)) (by rw [S16]; decide) (g := (mkF m 17 #[.val (.int p1), .val (.int p2), .val (.int p3), .unset, .unset, .unset, .unset] [(.int (65 : Int32)), (.int (2 : Int32)), (.ref a11), (.ref a11)])) rfl rfl (hb hby at_17)
  have N17 := Fr.snoc X17 N15 lo11
  have V17 : own_AI Z h17 a11 (35 : Int32) := own_AIset Ar16 S16 M16 H16 W17
  have Z17 : n0 ≤ h17.size := by rw [W17.size]; exact Z15
  obtain ⟨cl18, Ar18, S18, M18, H18⟩ := id V17
  obtain ⟨T19, h19, X19, e19, W19, st19⟩ := stI X17 hx hZ e17 Ar18 (j := (3 : Int32)) (by rw [S18]; decide) (g := (mkF m 22 #[.val (.int p1), .val (.int p2), .val (.int p3), .unset, .unset, .unset, .unset] [(.int (90 : Int32)), (.int (3 : Int32)), (.ref a11), (.ref a11)])) rfl rfl (hb hby at_22)
  have N19 := Fr.snoc X19 N17 lo11
  have V19 : own_AI Z h19 a11 (35 : Int32) := own_AIset Ar18 S18 M18 H18 W19
  have Z19 : n0 ≤ h19.size := by rw [W19.size]; exact Z17
  obtain ⟨cl20, Ar20, S20, M20, H20⟩ := id V19
  obtain ⟨T21, h21, X21, e21, W21, st21⟩ := stI X19 hx hZ e19 Ar20 (j := (4 : Int32)) (by rw [S20]; decide) (g := (mkF m 27 #[.val (.int p1), .val (.int p2), .val (.int p3), .unset, .unset, .unset, .unset] [(.int (95 : Int32)), (.int (4 : Int32)), (.ref a11), (.ref a11)])) rfl rfl (hb hby at_27)
  have N21 := Fr.snoc X21 N19 lo11
  have V21 : own_AI Z h21 a11 (35 : Int32) := own_AIset Ar20 S20 M20 H20 W21
  have Z21 : n0 ≤ h21.size := by rw [W21.size]; exact Z19
  obtain ⟨cl22, Ar22, S22, M22, H22⟩ := id V21
  obtain ⟨T23, h23, X23, e23, W23, st23⟩ := stI X21 hx hZ e21 Ar22 (j := (5 : Int32)) (by rw [S22]; decide) (g := (mkF m 32 #[.val (.int p1), .val (.int p2), .val (.int p3), .unset, .unset, .unset, .unset] [(.int (97 : Int32)), (.int (5 : Int32)), (.ref a11), (.ref a11)])) rfl rfl (hb hby at_32)
  have N23 := Fr.snoc X23 N21 lo11
  have V23 : own_AI Z h23 a11 (35 : Int32) := own_AIset Ar22 S22 M22 H22 W23
  have Z23 : n0 ≤ h23.size := by rw [W23.size]; exact Z21
  obtain ⟨cl24, Ar24, S24, M24, H24⟩ := id V23
  obtain ⟨T25, h25, X25, e25, W25, st25⟩ := stI X23 hx hZ e23 Ar24 (j := (6 : Int32)) (by rw [S24]; decide) (g := (mkF m 38 #[.val (.int p1), .val (.int p2), .val (.int p3), .unset, .unset, .unset, .unset] [(.int (122 : Int32)), (.int (6 : Int32)), (.ref a11), (.ref a11)])) rfl rfl (hb hby at_38)
  have N25 := Fr.snoc X25 N23 lo11
  have V25 : own_AI Z h25 a11 (35 : Int32) := own_AIset Ar24 S24 M24 H24 W25
  have Z25 : n0 ≤ h25.size := by rw [W25.size]; exact Z23
  obtain ⟨cl26, Ar26, S26, M26, H26⟩ := id V25
  obtain ⟨T27, h27, X27, e27, W27, st27⟩ := stI X25 hx hZ e25 Ar26 (j := (7 : Int32)) (by rw [S26]; decide) (g := (mkF m 45 #[.val (.int p1), .val (.int p2), .val (.int p3), .unset, .unset, .unset, .unset] [(.int (128 : Int32)), (.int (7 : Int32)), (.ref a11), (.ref a11)])) rfl rfl (hb hby at_45)
  have N27 := Fr.snoc X27 N25 lo11
  have V27 : own_AI Z h27 a11 (35 : Int32) := own_AIset Ar26 S26 M26 H26 W27
  have Z27 : n0 ≤ h27.size := by rw [W27.size]; exact Z25
  obtain ⟨cl28, Ar28, S28, M28, H28⟩ := id V27
  obtain ⟨T29, h29, X29, e29, W29, st29⟩ := stI X27 hx hZ e27 Ar28 (j := (8 : Int32)) (by rw [S28]; decide) (g := (mkF m 52 #[.val (.int p1), .val (.int p2), .val (.int p3), .unset, .unset, .unset, .unset] [(.int (192 : Int32)), (.int (8 : Int32)), (.ref a11), (.ref a11)])) rfl rfl (hb hby at_52)
  have N29 := Fr.snoc X29 N27 lo11
  have V29 : own_AI Z h29 a11 (35 : Int32) := own_AIset Ar28 S28 M28 H28 W29
  have Z29 : n0 ≤ h29.size := by rw [W29.size]; exact Z27
  obtain ⟨cl30, Ar30, S30, M30, H30⟩ := id V29
  obtain ⟨T31, h31, X31, e31, W31, st31⟩ := stI X29 hx hZ e29 Ar30 (j := (9 : Int32)) (by rw [S30]; decide) (g := (mkF m 59 #[.val (.int p1), .val (.int p2), .val (.int p3), .unset, .unset, .unset, .unset] [(.int (214 : Int32)), (.int (9 : Int32)), (.ref a11), (.ref a11)])) rfl rfl (hb hby at_59)
  have N31 := Fr.snoc X31 N29 lo11
  have V31 : own_AI Z h31 a11 (35 : Int32) := own_AIset Ar30 S30 M30 H30 W31
  have Z31 : n0 ≤ h31.size := by rw [W31.size]; exact Z29
  obtain ⟨cl32, Ar32, S32, M32, H32⟩ := id V31
  obtain ⟨T33, h33, X33, e33, W33, st33⟩ := stI X31 hx hZ e31 Ar32 (j := (10 : Int32)) (by rw [S32]; decide) (g := (mkF m 66 #[.val (.int p1), .val (.int p2), .val (.int p3), .unset, .unset, .unset, .unset] [(.int (216 : Int32)), (.int (10 : Int32)), (.ref a11), (.ref a11)])) rfl rfl (hb hby at_66)
  have N33 := Fr.snoc X33 N31 lo11
  have V33 : own_AI Z h33 a11 (35 : Int32) := own_AIset Ar32 S32 M32 H32 W33
  have Z33 : n0 ≤ h33.size := by rw [W33.size]; exact Z31
  obtain ⟨cl34, Ar34, S34, M34, H34⟩ := id V33
  obtain ⟨T35, h35, X35, e35, W35, st35⟩ := stI X33 hx hZ e33 Ar34 (j := (11 : Int32)) (by rw [S34]; decide) (g := (mkF m 73 #[.val (.int p1), .val (.int p2), .val (.int p3), .unset, .unset, .unset, .unset] [(.int (246 : Int32)), (.int (11 : Int32)), (.ref a11), (.ref a11)])) rfl rfl (hb hby at_73)
  have N35 := Fr.snoc X35 N33 lo11
  have V35 : own_AI Z h35 a11 (35 : Int32) := own_AIset Ar34 S34 M34 H34 W35
  have Z35 : n0 ≤ h35.size := by rw [W35.size]; exact Z33
  obtain ⟨cl36, Ar36, S36, M36, H36⟩ := id V35
  obtain ⟨T37, h37, X37, e37, W37, st37⟩ := stI X35 hx hZ e35 Ar36 (j := (12 : Int32)) (by rw [S36]; decide) (g := (mkF m 80 #[.val (.int p1), .val (.int p2), .val (.int p3), .unset, .unset, .unset, .unset] [(.int (248 : Int32)), (.int (12 : Int32)), (.ref a11), (.ref a11)])) rfl rfl (hb hby at_80)
  have N37 := Fr.snoc X37 N35 lo11
  have V37 : own_AI Z h37 a11 (35 : Int32) := own_AIset Ar36 S36 M36 H36 W37
  have Z37 : n0 ≤ h37.size := by rw [W37.size]; exact Z35
  obtain ⟨cl38, Ar38, S38, M38, H38⟩ := id V37
  obtain ⟨T39, h39, X39, e39, W39, st39⟩ := stI X37 hx hZ e37 Ar38 (j := (13 : Int32)) (by rw [S38]; decide) (g := (mkF m 87 #[.val (.int p1), .val (.int p2), .val (.int p3), .unset, .unset, .unset, .unset] [(.int (767 : Int32)), (.int (13 : Int32)), (.ref a11), (.ref a11)])) rfl rfl (hb hby at_87)
  have N39 := Fr.snoc X39 N37 lo11
  have V39 : own_AI Z h39 a11 (35 : Int32) := own_AIset Ar38 S38 M38 H38 W39
  have Z39 : n0 ≤ h39.size := by rw [W39.size]; exact Z37
  obtain ⟨cl40, Ar40, S40, M40, H40⟩ := id V39
  obtain ⟨T41, h41, X41, e41, W41, st41⟩ := stI X39 hx hZ e39 Ar40 (j := (14 : Int32)) (by rw [S40]; decide) (g := (mkF m 94 #[.val (.int p1), .val (.int p2), .val (.int p3), .unset, .unset, .unset, .unset] [(.int (880 : Int32)), (.int (14 : Int32)), (.ref a11), (.ref a11)])) rfl rfl (hb hby at_94)
  have N41 := Fr.snoc X41 N39 lo11
  have V41 : own_AI Z h41 a11 (35 : Int32) := own_AIset Ar40 S40 M40 H40 W41
  have Z41 : n0 ≤ h41.size := by rw [W41.size]; exact Z39
  obtain ⟨cl42, Ar42, S42, M42, H42⟩ := id V41
  obtain ⟨T43, h43, X43, e43, W43, st43⟩ := stI X41 hx hZ e41 Ar42 (j := (15 : Int32)) (by rw [S42]; decide) (g := (mkF m 101 #[.val (.int p1), .val (.int p2), .val (.int p3), .unset, .unset, .unset, .unset] [(.int (893 : Int32)), (.int (15 : Int32)), (.ref a11), (.ref a11)])) rfl rfl (hb hby at_101)
  have N43 := Fr.snoc X43 N41 lo11
  have V43 : own_AI Z h43 a11 (35 : Int32) := own_AIset Ar42 S42 M42 H42 W43
  have Z43 : n0 ≤ h43.size := by rw [W43.size]; exact Z41
  obtain ⟨cl44, Ar44, S44, M44, H44⟩ := id V43
  obtain ⟨T45, h45, X45, e45, W45, st45⟩ := stI X43 hx hZ e43 Ar44 (j := (16 : Int32)) (by rw [S44]; decide) (g := (mkF m 108 #[.val (.int p1), .val (.int p2), .val (.int p3), .unset, .unset, .unset, .unset] [(.int (895 : Int32)), (.int (16 : Int32)), (.ref a11), (.ref a11)])) rfl rfl (hb hby at_108)
  have N45 := Fr.snoc X45 N43 lo11
  have V45 : own_AI Z h45 a11 (35 : Int32) := own_AIset Ar44 S44 M44 H44 W45
  have Z45 : n0 ≤ h45.size := by rw [W45.size]; exact Z43
  obtain ⟨cl46, Ar46, S46, M46, H46⟩ := id V45
  obtain ⟨T47, h47, X47, e47, W47, st47⟩ := stI X45 hx hZ e45 Ar46 (j := (17 : Int32)) (by rw [S46]; decide) (g := (mkF m 115 #[.val (.int p1), .val (.int p2), .val (.int p3), .unset, .unset, .unset, .unset] [(.int (8191 : Int32)), (.int (17 : Int32)), (.ref a11), (.ref a11)])) rfl rfl (hb hby at_115)
  have N47 := Fr.snoc X47 N45 lo11
  have V47 : own_AI Z h47 a11 (35 : Int32) := own_AIset Ar46 S46 M46 H46 W47
  have Z47 : n0 ≤ h47.size := by rw [W47.size]; exact Z45
  obtain ⟨cl48, Ar48, S48, M48, H48⟩ := id V47
  obtain ⟨T49, h49, X49, e49, W49, st49⟩ := stI X47 hx hZ e47 Ar48 (j := (18 : Int32)) (by rw [S48]; decide) (g := (mkF m 122 #[.val (.int p1), .val (.int p2), .val (.int p3), .unset, .unset, .unset, .unset] [(.int (8204 : Int32)), (.int (18 : Int32)), (.ref a11), (.ref a11)])) rfl rfl (hb hby at_122)
  have N49 := Fr.snoc X49 N47 lo11
  have V49 : own_AI Z h49 a11 (35 : Int32) := own_AIset Ar48 S48 M48 H48 W49
  have Z49 : n0 ≤ h49.size := by rw [W49.size]; exact Z47
  obtain ⟨cl50, Ar50, S50, M50, H50⟩ := id V49
  obtain ⟨T51, h51, X51, e51, W51, st51⟩ := stI X49 hx hZ e49 Ar50 (j := (19 : Int32)) (by rw [S50]; decide) (g := (mkF m 129 #[.val (.int p1), .val (.int p2), .val (.int p3), .unset, .unset, .unset, .unset] [(.int (8205 : Int32)), (.int (19 : Int32)), (.ref a11), (.ref a11)])) rfl rfl (hb hby at_129)
  have N51 := Fr.snoc X51 N49 lo11
  have V51 : own_AI Z h51 a11 (35 : Int32) := own_AIset Ar50 S50 M50 H50 W51
  have Z51 : n0 ≤ h51.size := by rw [W51.size]; exact Z49
  obtain ⟨cl52, Ar52, S52, M52, H52⟩ := id V51
  obtain ⟨T53, h53, X53, e53, W53, st53⟩ := stI X51 hx hZ e51 Ar52 (j := (20 : Int32)) (by rw [S52]; decide) (g := (mkF m 136 #[.val (.int p1), .val (.int p2), .val (.int p3), .unset, .unset, .unset, .unset] [(.int (8304 : Int32)), (.int (20 : Int32)), (.ref a11), (.ref a11)])) rfl rfl (hb hby at_136)
  have N53 := Fr.snoc X53 N51 lo11
  have V53 : own_AI Z h53 a11 (35 : Int32) := own_AIset Ar52 S52 M52 H52 W53
  have Z53 : n0 ≤ h53.size := by rw [W53.size]; exact Z51
  obtain ⟨cl54, Ar54, S54, M54, H54⟩ := id V53
  obtain ⟨T55, h55, X55, e55, W55, st55⟩ := stI X53 hx hZ e53 Ar54 (j := (21 : Int32)) (by rw [S54]; decide) (g := (mkF m 143 #[.val (.int p1), .val (.int p2), .val (.int p3), .unset, .unset, .unset, .unset] [(.int (8591 : Int32)), (.int (21 : Int32)), (.ref a11), (.ref a11)])) rfl rfl (hb hby at_143)
  have N55 := Fr.snoc X55 N53 lo11
  have V55 : own_AI Z h55 a11 (35 : Int32) := own_AIset Ar54 S54 M54 H54 W55
  have Z55 : n0 ≤ h55.size := by rw [W55.size]; exact Z53
  obtain ⟨cl56, Ar56, S56, M56, H56⟩ := id V55
  obtain ⟨T57, h57, X57, e57, W57, st57⟩ := stI X55 hx hZ e55 Ar56 (j := (22 : Int32)) (by rw [S56]; decide) (g := (mkF m 150 #[.val (.int p1), .val (.int p2), .val (.int p3), .unset, .unset, .unset, .unset] [(.int (11264 : Int32)), (.int (22 : Int32)), (.ref a11), (.ref a11)])) rfl rfl (hb hby at_150)
  have N57 := Fr.snoc X57 N55 lo11
  have V57 : own_AI Z h57 a11 (35 : Int32) := own_AIset Ar56 S56 M56 H56 W57
  have Z57 : n0 ≤ h57.size := by rw [W57.size]; exact Z55
  obtain ⟨cl58, Ar58, S58, M58, H58⟩ := id V57
  obtain ⟨T59, h59, X59, e59, W59, st59⟩ := stI X57 hx hZ e57 Ar58 (j := (23 : Int32)) (by rw [S58]; decide) (g := (mkF m 157 #[.val (.int p1), .val (.int p2), .val (.int p3), .unset, .unset, .unset, .unset] [(.int (12271 : Int32)), (.int (23 : Int32)), (.ref a11), (.ref a11)])) rfl rfl (hb hby at_157)
  have N59 := Fr.snoc X59 N57 lo11
  have V59 : own_AI Z h59 a11 (35 : Int32) := own_AIset Ar58 S58 M58 H58 W59
  have Z59 : n0 ≤ h59.size := by rw [W59.size]; exact Z57
  obtain ⟨cl60, Ar60, S60, M60, H60⟩ := id V59
  obtain ⟨T61, h61, X61, e61, W61, st61⟩ := stI X59 hx hZ e59 Ar60 (j := (24 : Int32)) (by rw [S60]; decide) (g := (mkF m 164 #[.val (.int p1), .val (.int p2), .val (.int p3), .unset, .unset, .unset, .unset] [(.int (12289 : Int32)), (.int (24 : Int32)), (.ref a11), (.ref a11)])) rfl rfl (hb hby at_164)
  have N61 := Fr.snoc X61 N59 lo11
  have V61 : own_AI Z h61 a11 (35 : Int32) := own_AIset Ar60 S60 M60 H60 W61
  have Z61 : n0 ≤ h61.size := by rw [W61.size]; exact Z59
  obtain ⟨cl62, Ar62, S62, M62, H62⟩ := id V61
  obtain ⟨T63, h63, X63, e63, W63, st63⟩ := stI X61 hx hZ e61 Ar62 (j := (25 : Int32)) (by rw [S62]; decide) (g := (mkF m 170 #[.val (.int p1), .val (.int p2), .val (.int p3), .unset, .unset, .unset, .unset] [(.int (55295 : Int32)), (.int (25 : Int32)), (.ref a11), (.ref a11)])) rfl rfl (hb hby at_170)
  have N63 := Fr.snoc X63 N61 lo11
  have V63 : own_AI Z h63 a11 (35 : Int32) := own_AIset Ar62 S62 M62 H62 W63
  have Z63 : n0 ≤ h63.size := by rw [W63.size]; exact Z61
  obtain ⟨cl64, Ar64, S64, M64, H64⟩ := id V63
  obtain ⟨T65, h65, X65, e65, W65, st65⟩ := stI X63 hx hZ e63 Ar64 (j := (26 : Int32)) (by rw [S64]; decide) (g := (mkF m 176 #[.val (.int p1), .val (.int p2), .val (.int p3), .unset, .unset, .unset, .unset] [(.int (63744 : Int32)), (.int (26 : Int32)), (.ref a11), (.ref a11)])) rfl rfl (hb hby at_176)
  have N65 := Fr.snoc X65 N63 lo11
  have V65 : own_AI Z h65 a11 (35 : Int32) := own_AIset Ar64 S64 M64 H64 W65
  have Z65 : n0 ≤ h65.size := by rw [W65.size]; exact Z63
  obtain ⟨cl66, Ar66, S66, M66, H66⟩ := id V65
  obtain ⟨T67, h67, X67, e67, W67, st67⟩ := stI X65 hx hZ e65 Ar66 (j := (27 : Int32)) (by rw [S66]; decide) (g := (mkF m 182 #[.val (.int p1), .val (.int p2), .val (.int p3), .unset, .unset, .unset, .unset] [(.int (64975 : Int32)), (.int (27 : Int32)), (.ref a11), (.ref a11)])) rfl rfl (hb hby at_182)
  have N67 := Fr.snoc X67 N65 lo11
  have V67 : own_AI Z h67 a11 (35 : Int32) := own_AIset Ar66 S66 M66 H66 W67
  have Z67 : n0 ≤ h67.size := by rw [W67.size]; exact Z65
  obtain ⟨cl68, Ar68, S68, M68, H68⟩ := id V67
  obtain ⟨T69, h69, X69, e69, W69, st69⟩ := stI X67 hx hZ e67 Ar68 (j := (28 : Int32)) (by rw [S68]; decide) (g := (mkF m 188 #[.val (.int p1), .val (.int p2), .val (.int p3), .unset, .unset, .unset, .unset] [(.int (65008 : Int32)), (.int (28 : Int32)), (.ref a11), (.ref a11)])) rfl rfl (hb hby at_188)
  have N69 := Fr.snoc X69 N67 lo11
  have V69 : own_AI Z h69 a11 (35 : Int32) := own_AIset Ar68 S68 M68 H68 W69
  have Z69 : n0 ≤ h69.size := by rw [W69.size]; exact Z67
  obtain ⟨cl70, Ar70, S70, M70, H70⟩ := id V69
  obtain ⟨T71, h71, X71, e71, W71, st71⟩ := stI X69 hx hZ e69 Ar70 (j := (29 : Int32)) (by rw [S70]; decide) (g := (mkF m 194 #[.val (.int p1), .val (.int p2), .val (.int p3), .unset, .unset, .unset, .unset] [(.int (65533 : Int32)), (.int (29 : Int32)), (.ref a11), (.ref a11)])) rfl rfl (hb hby at_194)
  have N71 := Fr.snoc X71 N69 lo11
  have V71 : own_AI Z h71 a11 (35 : Int32) := own_AIset Ar70 S70 M70 H70 W71
  have Z71 : n0 ≤ h71.size := by rw [W71.size]; exact Z69
  obtain ⟨cl72, Ar72, S72, M72, H72⟩ := id V71
  obtain ⟨T73, h73, X73, e73, W73, st73⟩ := stI X71 hx hZ e71 Ar72 (j := (30 : Int32)) (by rw [S72]; decide) (g := (mkF m 200 #[.val (.int p1), .val (.int p2), .val (.int p3), .unset, .unset, .unset, .unset] [(.int (65536 : Int32)), (.int (30 : Int32)), (.ref a11), (.ref a11)])) rfl rfl (hb hby at_200)
  have N73 := Fr.snoc X73 N71 lo11
  have V73 : own_AI Z h73 a11 (35 : Int32) := own_AIset Ar72 S72 M72 H72 W73
  have Z73 : n0 ≤ h73.size := by rw [W73.size]; exact Z71
  obtain ⟨cl74, Ar74, S74, M74, H74⟩ := id V73
  obtain ⟨T75, h75, X75, e75, W75, st75⟩ := stI X73 hx hZ e73 Ar74 (j := (31 : Int32)) (by rw [S74]; decide) (g := (mkF m 206 #[.val (.int p1), .val (.int p2), .val (.int p3), .unset, .unset, .unset, .unset] [(.int (983039 : Int32)), (.int (31 : Int32)), (.ref a11), (.ref a11)])) rfl rfl (hb hby at_206)
  have N75 := Fr.snoc X75 N73 lo11
  have V75 : own_AI Z h75 a11 (35 : Int32) := own_AIset Ar74 S74 M74 H74 W75
  have Z75 : n0 ≤ h75.size := by rw [W75.size]; exact Z73
  obtain ⟨cl76, Ar76, S76, M76, H76⟩ := id V75
  obtain ⟨T77, h77, X77, e77, W77, st77⟩ := stI X75 hx hZ e75 Ar76 (j := (32 : Int32)) (by rw [S76]; decide) (g := (mkF m 212 #[.val (.int p1), .val (.int p2), .val (.int p3), .unset, .unset, .unset, .unset] [(.int (1114111 : Int32)), (.int (32 : Int32)), (.ref a11), (.ref a11)])) rfl rfl (hb hby at_212)
  have N77 := Fr.snoc X77 N75 lo11
  have V77 : own_AI Z h77 a11 (35 : Int32) := own_AIset Ar76 S76 M76 H76 W77
  have Z77 : n0 ≤ h77.size := by rw [W77.size]; exact Z75
  obtain ⟨cl78, Ar78, S78, M78, H78⟩ := id V77
  obtain ⟨T79, h79, X79, e79, W79, st79⟩ := stI X77 hx hZ e77 Ar78 (j := (33 : Int32)) (by rw [S78]; decide) (g := (mkF m 218 #[.val (.int p1), .val (.int p2), .val (.int p3), .unset, .unset, .unset, .unset] [(.int (-2147483648 : Int32)), (.int (33 : Int32)), (.ref a11), (.ref a11)])) rfl rfl (hb hby at_218)
  have N79 := Fr.snoc X79 N77 lo11
  have V79 : own_AI Z h79 a11 (35 : Int32) := own_AIset Ar78 S78 M78 H78 W79
  have Z79 : n0 ≤ h79.size := by rw [W79.size]; exact Z77
  obtain ⟨cl80, Ar80, S80, M80, H80⟩ := id V79
  obtain ⟨T81, h81, X81, e81, W81, st81⟩ := stI X79 hx hZ e79 Ar80 (j := (34 : Int32)) (by rw [S80]; decide) (g := (mkF m 224 #[.val (.int p1), .val (.int p2), .val (.int p3), .unset, .unset, .unset, .unset] [(.int (2147483647 : Int32)), (.int (34 : Int32)), (.ref a11), (.ref a11)])) rfl rfl (hb hby at_224)
  have N81 := Fr.snoc X81 N79 lo11
  have V81 : own_AI Z h81 a11 (35 : Int32) := own_AIset Ar80 S80 M80 H80 W81
  have Z81 : n0 ≤ h81.size := by rw [W81.size]; exact Z79
  refine own_go (b := T81.setTop (mkF m 226 #[.val (.int p1), .val (.int p2), .val (.int p3), .val (.ref a11), .unset, .unset, .unset] [])) (fun t k => ?_) ?_
  · show Steps p.tables e below (s₁.setTop (mkF m 0 #[.val (.int p1), .val (.int p2), .val (.int p3), .unset, .unset, .unset, .unset] [])) _
    refine XS.bipush X0.here hx rfl (hb hby at_0) ?_
    show Steps p.tables e below (s₁.setTop (mkF m 2 #[.val (.int p1), .val (.int p2), .val (.int p3), .unset, .unset, .unset, .unset] [(.int (35 : Int32))])) _
    refine st11 _ ?_
    show Steps p.tables e below (T11.setTop (mkF m 4 #[.val (.int p1), .val (.int p2), .val (.int p3), .unset, .unset, .unset, .unset] [(.ref a11)])) _
    refine XS.dup X11.here hx rfl (hb hby at_4) rfl rfl ?_
    show Steps p.tables e below (T11.setTop (mkF m 5 #[.val (.int p1), .val (.int p2), .val (.int p3), .unset, .unset, .unset, .unset] [(.ref a11), (.ref a11)])) _
    refine XS.iconst X11.here hx rfl (hb hby at_5) ?_
    show Steps p.tables e below (T11.setTop (mkF m 6 #[.val (.int p1), .val (.int p2), .val (.int p3), .unset, .unset, .unset, .unset] [(.int (0 : Int32)), (.ref a11), (.ref a11)])) _
    refine XS.iconst X11.here hx rfl (hb hby at_6) ?_
    show Steps p.tables e below (T11.setTop (mkF m 7 #[.val (.int p1), .val (.int p2), .val (.int p3), .unset, .unset, .unset, .unset] [(.int (0 : Int32)), (.int (0 : Int32)), (.ref a11), (.ref a11)])) _
    refine st13 _ ?_
    show Steps p.tables e below (T13.setTop (mkF m 8 #[.val (.int p1), .val (.int p2), .val (.int p3), .unset, .unset, .unset, .unset] [(.ref a11)])) _
    refine XS.dup X13.here hx rfl (hb hby at_8) rfl rfl ?_
    show Steps p.tables e below (T13.setTop (mkF m 9 #[.val (.int p1), .val (.int p2), .val (.int p3), .unset, .unset, .unset, .unset] [(.ref a11), (.ref a11)])) _
    refine XS.iconst X13.here hx rfl (hb hby at_9) ?_
    show Steps p.tables e below (T13.setTop (mkF m 10 #[.val (.int p1), .val (.int p2), .val (.int p3), .unset, .unset, .unset, .unset] [(.int (1 : Int32)), (.ref a11), (.ref a11)])) _
    refine XS.bipush X13.here hx rfl (hb hby at_10) ?_
    show Steps p.tables e below (T13.setTop (mkF m 12 #[.val (.int p1), .val (.int p2), .val (.int p3), .unset, .unset, .unset, .unset] [(.int (58 : Int32)), (.int (1 : Int32)), (.ref a11), (.ref a11)])) _
    refine st15 _ ?_
    show Steps p.tables e below (T15.setTop (mkF m 13 #[.val (.int p1), .val (.int p2), .val (.int p3), .unset, .unset, .unset, .unset] [(.ref a11)])) _
    refine XS.dup X15.here hx rfl (hb hby at_13) rfl rfl ?_
    show Steps p.tables e below (T15.setTop (mkF m 14 #[.val (.int p1), .val (.int p2), .val (.int p3), .unset, .unset, .unset, .unset] [(.ref a11), (.ref a11)])) _
    refine XS.iconst X15.here hx rfl (hb hby at_14) ?_
    show Steps p.tables e below (T15.setTop (mkF m 15 #[.val (.int p1), .val (.int p2), .val (.int p3), .unset, .unset, .unset, .unset] [(.int (2 : Int32)), (.ref a11), (.ref a11)])) _
    refine XS.bipush X15.here hx rfl (hb hby at_15) ?_
    show Steps p.tables e below (T15.setTop (mkF m 17 #[.val (.int p1), .val (.int p2), .val (.int p3), .unset, .unset, .unset, .unset] [(.int (65 : Int32)), (.int (2 : Int32)), (.ref a11), (.ref a11)])) _
    refine st17 _ ?_
    show Steps p.tables e below (T17.setTop (mkF m 18 #[.val (.int p1), .val (.int p2), .val (.int p3), .unset, .unset, .unset, .unset] [(.ref a11)])) _
    refine XS.dup X17.here hx rfl (hb hby at_18) rfl rfl ?_
    show Steps p.tables e below (T17.setTop (mkF m 19 #[.val (.int p1), .val (.int p2), .val (.int p3), .unset, .unset, .unset, .unset] [(.ref a11), (.ref a11)])) _
    refine XS.iconst X17.here hx rfl (hb hby at_19) ?_
    show Steps p.tables e below (T17.setTop (mkF m 20 #[.val (.int p1), .val (.int p2), .val (.int p3), .unset, .unset, .unset, .unset] [(.int (3 : Int32)), (.ref a11), (.ref a11)])) _
    refine XS.bipush X17.here hx rfl (hb hby at_20) ?_
    show Steps p.tables e below (T17.setTop (mkF m 22 #[.val (.int p1), .val (.int p2), .val (.int p3), .unset, .unset, .unset, .unset] [(.int (90 : Int32)), (.int (3 : Int32)), (.ref a11), (.ref a11)])) _
    refine st19 _ ?_
    show Steps p.tables e below (T19.setTop (mkF m 23 #[.val (.int p1), .val (.int p2), .val (.int p3), .unset, .unset, .unset, .unset] [(.ref a11)])) _
    refine XS.dup X19.here hx rfl (hb hby at_23) rfl rfl ?_
    show Steps p.tables e below (T19.setTop (mkF m 24 #[.val (.int p1), .val (.int p2), .val (.int p3), .unset, .unset, .unset, .unset] [(.ref a11), (.ref a11)])) _
    refine XS.iconst X19.here hx rfl (hb hby at_24) ?_
    show Steps p.tables e below (T19.setTop (mkF m 25 #[.val (.int p1), .val (.int p2), .val (.int p3), .unset, .unset, .unset, .unset] [(.int (4 : Int32)), (.ref a11), (.ref a11)])) _
    refine XS.bipush X19.here hx rfl (hb hby at_25) ?_
    show Steps p.tables e below (T19.setTop (mkF m 27 #[.val (.int p1), .val (.int p2), .val (.int p3), .unset, .unset, .unset, .unset] [(.int (95 : Int32)), (.int (4 : Int32)), (.ref a11), (.ref a11)])) _
    refine st21 _ ?_
    show Steps p.tables e below (T21.setTop (mkF m 28 #[.val (.int p1), .val (.int p2), .val (.int p3), .unset, .unset, .unset, .unset] [(.ref a11)])) _
    refine XS.dup X21.here hx rfl (hb hby at_28) rfl rfl ?_
    show Steps p.tables e below (T21.setTop (mkF m 29 #[.val (.int p1), .val (.int p2), .val (.int p3), .unset, .unset, .unset, .unset] [(.ref a11), (.ref a11)])) _
    refine XS.iconst X21.here hx rfl (hb hby at_29) ?_
    show Steps p.tables e below (T21.setTop (mkF m 30 #[.val (.int p1), .val (.int p2), .val (.int p3), .unset, .unset, .unset, .unset] [(.int (5 : Int32)), (.ref a11), (.ref a11)])) _
    refine XS.bipush X21.here hx rfl (hb hby at_30) ?_
    show Steps p.tables e below (T21.setTop (mkF m 32 #[.val (.int p1), .val (.int p2), .val (.int p3), .unset, .unset, .unset, .unset] [(.int (97 : Int32)), (.int (5 : Int32)), (.ref a11), (.ref a11)])) _
    refine st23 _ ?_
    show Steps p.tables e below (T23.setTop (mkF m 33 #[.val (.int p1), .val (.int p2), .val (.int p3), .unset, .unset, .unset, .unset] [(.ref a11)])) _
    refine XS.dup X23.here hx rfl (hb hby at_33) rfl rfl ?_
    show Steps p.tables e below (T23.setTop (mkF m 34 #[.val (.int p1), .val (.int p2), .val (.int p3), .unset, .unset, .unset, .unset] [(.ref a11), (.ref a11)])) _
    refine XS.bipush X23.here hx rfl (hb hby at_34) ?_
    show Steps p.tables e below (T23.setTop (mkF m 36 #[.val (.int p1), .val (.int p2), .val (.int p3), .unset, .unset, .unset, .unset] [(.int (6 : Int32)), (.ref a11), (.ref a11)])) _
    refine XS.bipush X23.here hx rfl (hb hby at_36) ?_
    show Steps p.tables e below (T23.setTop (mkF m 38 #[.val (.int p1), .val (.int p2), .val (.int p3), .unset, .unset, .unset, .unset] [(.int (122 : Int32)), (.int (6 : Int32)), (.ref a11), (.ref a11)])) _
    refine st25 _ ?_
    show Steps p.tables e below (T25.setTop (mkF m 39 #[.val (.int p1), .val (.int p2), .val (.int p3), .unset, .unset, .unset, .unset] [(.ref a11)])) _
    refine XS.dup X25.here hx rfl (hb hby at_39) rfl rfl ?_
    show Steps p.tables e below (T25.setTop (mkF m 40 #[.val (.int p1), .val (.int p2), .val (.int p3), .unset, .unset, .unset, .unset] [(.ref a11), (.ref a11)])) _
    refine XS.bipush X25.here hx rfl (hb hby at_40) ?_
    show Steps p.tables e below (T25.setTop (mkF m 42 #[.val (.int p1), .val (.int p2), .val (.int p3), .unset, .unset, .unset, .unset] [(.int (7 : Int32)), (.ref a11), (.ref a11)])) _
    refine XS.sipush X25.here hx rfl (hb hby at_42) ?_
    show Steps p.tables e below (T25.setTop (mkF m 45 #[.val (.int p1), .val (.int p2), .val (.int p3), .unset, .unset, .unset, .unset] [(.int (128 : Int32)), (.int (7 : Int32)), (.ref a11), (.ref a11)])) _
    refine st27 _ ?_
    show Steps p.tables e below (T27.setTop (mkF m 46 #[.val (.int p1), .val (.int p2), .val (.int p3), .unset, .unset, .unset, .unset] [(.ref a11)])) _
    refine XS.dup X27.here hx rfl (hb hby at_46) rfl rfl ?_
    show Steps p.tables e below (T27.setTop (mkF m 47 #[.val (.int p1), .val (.int p2), .val (.int p3), .unset, .unset, .unset, .unset] [(.ref a11), (.ref a11)])) _
    refine XS.bipush X27.here hx rfl (hb hby at_47) ?_
    show Steps p.tables e below (T27.setTop (mkF m 49 #[.val (.int p1), .val (.int p2), .val (.int p3), .unset, .unset, .unset, .unset] [(.int (8 : Int32)), (.ref a11), (.ref a11)])) _
    refine XS.sipush X27.here hx rfl (hb hby at_49) ?_
    show Steps p.tables e below (T27.setTop (mkF m 52 #[.val (.int p1), .val (.int p2), .val (.int p3), .unset, .unset, .unset, .unset] [(.int (192 : Int32)), (.int (8 : Int32)), (.ref a11), (.ref a11)])) _
    refine st29 _ ?_
    show Steps p.tables e below (T29.setTop (mkF m 53 #[.val (.int p1), .val (.int p2), .val (.int p3), .unset, .unset, .unset, .unset] [(.ref a11)])) _
    refine XS.dup X29.here hx rfl (hb hby at_53) rfl rfl ?_
    show Steps p.tables e below (T29.setTop (mkF m 54 #[.val (.int p1), .val (.int p2), .val (.int p3), .unset, .unset, .unset, .unset] [(.ref a11), (.ref a11)])) _
    refine XS.bipush X29.here hx rfl (hb hby at_54) ?_
    show Steps p.tables e below (T29.setTop (mkF m 56 #[.val (.int p1), .val (.int p2), .val (.int p3), .unset, .unset, .unset, .unset] [(.int (9 : Int32)), (.ref a11), (.ref a11)])) _
    refine XS.sipush X29.here hx rfl (hb hby at_56) ?_
    show Steps p.tables e below (T29.setTop (mkF m 59 #[.val (.int p1), .val (.int p2), .val (.int p3), .unset, .unset, .unset, .unset] [(.int (214 : Int32)), (.int (9 : Int32)), (.ref a11), (.ref a11)])) _
    refine st31 _ ?_
    show Steps p.tables e below (T31.setTop (mkF m 60 #[.val (.int p1), .val (.int p2), .val (.int p3), .unset, .unset, .unset, .unset] [(.ref a11)])) _
    refine XS.dup X31.here hx rfl (hb hby at_60) rfl rfl ?_
    show Steps p.tables e below (T31.setTop (mkF m 61 #[.val (.int p1), .val (.int p2), .val (.int p3), .unset, .unset, .unset, .unset] [(.ref a11), (.ref a11)])) _
    refine XS.bipush X31.here hx rfl (hb hby at_61) ?_
    show Steps p.tables e below (T31.setTop (mkF m 63 #[.val (.int p1), .val (.int p2), .val (.int p3), .unset, .unset, .unset, .unset] [(.int (10 : Int32)), (.ref a11), (.ref a11)])) _
    refine XS.sipush X31.here hx rfl (hb hby at_63) ?_
    show Steps p.tables e below (T31.setTop (mkF m 66 #[.val (.int p1), .val (.int p2), .val (.int p3), .unset, .unset, .unset, .unset] [(.int (216 : Int32)), (.int (10 : Int32)), (.ref a11), (.ref a11)])) _
    refine st33 _ ?_
    show Steps p.tables e below (T33.setTop (mkF m 67 #[.val (.int p1), .val (.int p2), .val (.int p3), .unset, .unset, .unset, .unset] [(.ref a11)])) _
    refine XS.dup X33.here hx rfl (hb hby at_67) rfl rfl ?_
    show Steps p.tables e below (T33.setTop (mkF m 68 #[.val (.int p1), .val (.int p2), .val (.int p3), .unset, .unset, .unset, .unset] [(.ref a11), (.ref a11)])) _
    refine XS.bipush X33.here hx rfl (hb hby at_68) ?_
    show Steps p.tables e below (T33.setTop (mkF m 70 #[.val (.int p1), .val (.int p2), .val (.int p3), .unset, .unset, .unset, .unset] [(.int (11 : Int32)), (.ref a11), (.ref a11)])) _
    refine XS.sipush X33.here hx rfl (hb hby at_70) ?_
    show Steps p.tables e below (T33.setTop (mkF m 73 #[.val (.int p1), .val (.int p2), .val (.int p3), .unset, .unset, .unset, .unset] [(.int (246 : Int32)), (.int (11 : Int32)), (.ref a11), (.ref a11)])) _
    refine st35 _ ?_
    show Steps p.tables e below (T35.setTop (mkF m 74 #[.val (.int p1), .val (.int p2), .val (.int p3), .unset, .unset, .unset, .unset] [(.ref a11)])) _
    refine XS.dup X35.here hx rfl (hb hby at_74) rfl rfl ?_
    show Steps p.tables e below (T35.setTop (mkF m 75 #[.val (.int p1), .val (.int p2), .val (.int p3), .unset, .unset, .unset, .unset] [(.ref a11), (.ref a11)])) _
    refine XS.bipush X35.here hx rfl (hb hby at_75) ?_
    show Steps p.tables e below (T35.setTop (mkF m 77 #[.val (.int p1), .val (.int p2), .val (.int p3), .unset, .unset, .unset, .unset] [(.int (12 : Int32)), (.ref a11), (.ref a11)])) _
    refine XS.sipush X35.here hx rfl (hb hby at_77) ?_
    show Steps p.tables e below (T35.setTop (mkF m 80 #[.val (.int p1), .val (.int p2), .val (.int p3), .unset, .unset, .unset, .unset] [(.int (248 : Int32)), (.int (12 : Int32)), (.ref a11), (.ref a11)])) _
    refine st37 _ ?_
    show Steps p.tables e below (T37.setTop (mkF m 81 #[.val (.int p1), .val (.int p2), .val (.int p3), .unset, .unset, .unset, .unset] [(.ref a11)])) _
    refine XS.dup X37.here hx rfl (hb hby at_81) rfl rfl ?_
    show Steps p.tables e below (T37.setTop (mkF m 82 #[.val (.int p1), .val (.int p2), .val (.int p3), .unset, .unset, .unset, .unset] [(.ref a11), (.ref a11)])) _
    refine XS.bipush X37.here hx rfl (hb hby at_82) ?_
    show Steps p.tables e below (T37.setTop (mkF m 84 #[.val (.int p1), .val (.int p2), .val (.int p3), .unset, .unset, .unset, .unset] [(.int (13 : Int32)), (.ref a11), (.ref a11)])) _
    refine XS.sipush X37.here hx rfl (hb hby at_84) ?_
    show Steps p.tables e below (T37.setTop (mkF m 87 #[.val (.int p1), .val (.int p2), .val (.int p3), .unset, .unset, .unset, .unset] [(.int (767 : Int32)), (.int (13 : Int32)), (.ref a11), (.ref a11)])) _
    refine st39 _ ?_
    show Steps p.tables e below (T39.setTop (mkF m 88 #[.val (.int p1), .val (.int p2), .val (.int p3), .unset, .unset, .unset, .unset] [(.ref a11)])) _
    refine XS.dup X39.here hx rfl (hb hby at_88) rfl rfl ?_
    show Steps p.tables e below (T39.setTop (mkF m 89 #[.val (.int p1), .val (.int p2), .val (.int p3), .unset, .unset, .unset, .unset] [(.ref a11), (.ref a11)])) _
    refine XS.bipush X39.here hx rfl (hb hby at_89) ?_
    show Steps p.tables e below (T39.setTop (mkF m 91 #[.val (.int p1), .val (.int p2), .val (.int p3), .unset, .unset, .unset, .unset] [(.int (14 : Int32)), (.ref a11), (.ref a11)])) _
    refine XS.sipush X39.here hx rfl (hb hby at_91) ?_
    show Steps p.tables e below (T39.setTop (mkF m 94 #[.val (.int p1), .val (.int p2), .val (.int p3), .unset, .unset, .unset, .unset] [(.int (880 : Int32)), (.int (14 : Int32)), (.ref a11), (.ref a11)])) _
    refine st41 _ ?_
    show Steps p.tables e below (T41.setTop (mkF m 95 #[.val (.int p1), .val (.int p2), .val (.int p3), .unset, .unset, .unset, .unset] [(.ref a11)])) _
    refine XS.dup X41.here hx rfl (hb hby at_95) rfl rfl ?_
    show Steps p.tables e below (T41.setTop (mkF m 96 #[.val (.int p1), .val (.int p2), .val (.int p3), .unset, .unset, .unset, .unset] [(.ref a11), (.ref a11)])) _
    refine XS.bipush X41.here hx rfl (hb hby at_96) ?_
    show Steps p.tables e below (T41.setTop (mkF m 98 #[.val (.int p1), .val (.int p2), .val (.int p3), .unset, .unset, .unset, .unset] [(.int (15 : Int32)), (.ref a11), (.ref a11)])) _
    refine XS.sipush X41.here hx rfl (hb hby at_98) ?_
    show Steps p.tables e below (T41.setTop (mkF m 101 #[.val (.int p1), .val (.int p2), .val (.int p3), .unset, .unset, .unset, .unset] [(.int (893 : Int32)), (.int (15 : Int32)), (.ref a11), (.ref a11)])) _
    refine st43 _ ?_
    show Steps p.tables e below (T43.setTop (mkF m 102 #[.val (.int p1), .val (.int p2), .val (.int p3), .unset, .unset, .unset, .unset] [(.ref a11)])) _
    refine XS.dup X43.here hx rfl (hb hby at_102) rfl rfl ?_
    show Steps p.tables e below (T43.setTop (mkF m 103 #[.val (.int p1), .val (.int p2), .val (.int p3), .unset, .unset, .unset, .unset] [(.ref a11), (.ref a11)])) _
    refine XS.bipush X43.here hx rfl (hb hby at_103) ?_
    show Steps p.tables e below (T43.setTop (mkF m 105 #[.val (.int p1), .val (.int p2), .val (.int p3), .unset, .unset, .unset, .unset] [(.int (16 : Int32)), (.ref a11), (.ref a11)])) _
    refine XS.sipush X43.here hx rfl (hb hby at_105) ?_
    show Steps p.tables e below (T43.setTop (mkF m 108 #[.val (.int p1), .val (.int p2), .val (.int p3), .unset, .unset, .unset, .unset] [(.int (895 : Int32)), (.int (16 : Int32)), (.ref a11), (.ref a11)])) _
    refine st45 _ ?_
    show Steps p.tables e below (T45.setTop (mkF m 109 #[.val (.int p1), .val (.int p2), .val (.int p3), .unset, .unset, .unset, .unset] [(.ref a11)])) _
    refine XS.dup X45.here hx rfl (hb hby at_109) rfl rfl ?_
    show Steps p.tables e below (T45.setTop (mkF m 110 #[.val (.int p1), .val (.int p2), .val (.int p3), .unset, .unset, .unset, .unset] [(.ref a11), (.ref a11)])) _
    refine XS.bipush X45.here hx rfl (hb hby at_110) ?_
    show Steps p.tables e below (T45.setTop (mkF m 112 #[.val (.int p1), .val (.int p2), .val (.int p3), .unset, .unset, .unset, .unset] [(.int (17 : Int32)), (.ref a11), (.ref a11)])) _
    refine XS.sipush X45.here hx rfl (hb hby at_112) ?_
    show Steps p.tables e below (T45.setTop (mkF m 115 #[.val (.int p1), .val (.int p2), .val (.int p3), .unset, .unset, .unset, .unset] [(.int (8191 : Int32)), (.int (17 : Int32)), (.ref a11), (.ref a11)])) _
    refine st47 _ ?_
    show Steps p.tables e below (T47.setTop (mkF m 116 #[.val (.int p1), .val (.int p2), .val (.int p3), .unset, .unset, .unset, .unset] [(.ref a11)])) _
    refine XS.dup X47.here hx rfl (hb hby at_116) rfl rfl ?_
    show Steps p.tables e below (T47.setTop (mkF m 117 #[.val (.int p1), .val (.int p2), .val (.int p3), .unset, .unset, .unset, .unset] [(.ref a11), (.ref a11)])) _
    refine XS.bipush X47.here hx rfl (hb hby at_117) ?_
    show Steps p.tables e below (T47.setTop (mkF m 119 #[.val (.int p1), .val (.int p2), .val (.int p3), .unset, .unset, .unset, .unset] [(.int (18 : Int32)), (.ref a11), (.ref a11)])) _
    refine XS.sipush X47.here hx rfl (hb hby at_119) ?_
    show Steps p.tables e below (T47.setTop (mkF m 122 #[.val (.int p1), .val (.int p2), .val (.int p3), .unset, .unset, .unset, .unset] [(.int (8204 : Int32)), (.int (18 : Int32)), (.ref a11), (.ref a11)])) _
    refine st49 _ ?_
    show Steps p.tables e below (T49.setTop (mkF m 123 #[.val (.int p1), .val (.int p2), .val (.int p3), .unset, .unset, .unset, .unset] [(.ref a11)])) _
    refine XS.dup X49.here hx rfl (hb hby at_123) rfl rfl ?_
    show Steps p.tables e below (T49.setTop (mkF m 124 #[.val (.int p1), .val (.int p2), .val (.int p3), .unset, .unset, .unset, .unset] [(.ref a11), (.ref a11)])) _
    refine XS.bipush X49.here hx rfl (hb hby at_124) ?_
    show Steps p.tables e below (T49.setTop (mkF m 126 #[.val (.int p1), .val (.int p2), .val (.int p3), .unset, .unset, .unset, .unset] [(.int (19 : Int32)), (.ref a11), (.ref a11)])) _
    refine XS.sipush X49.here hx rfl (hb hby at_126) ?_
    show Steps p.tables e below (T49.setTop (mkF m 129 #[.val (.int p1), .val (.int p2), .val (.int p3), .unset, .unset, .unset, .unset] [(.int (8205 : Int32)), (.int (19 : Int32)), (.ref a11), (.ref a11)])) _
    refine st51 _ ?_
    show Steps p.tables e below (T51.setTop (mkF m 130 #[.val (.int p1), .val (.int p2), .val (.int p3), .unset, .unset, .unset, .unset] [(.ref a11)])) _
    refine XS.dup X51.here hx rfl (hb hby at_130) rfl rfl ?_
    show Steps p.tables e below (T51.setTop (mkF m 131 #[.val (.int p1), .val (.int p2), .val (.int p3), .unset, .unset, .unset, .unset] [(.ref a11), (.ref a11)])) _
    refine XS.bipush X51.here hx rfl (hb hby at_131) ?_
    show Steps p.tables e below (T51.setTop (mkF m 133 #[.val (.int p1), .val (.int p2), .val (.int p3), .unset, .unset, .unset, .unset] [(.int (20 : Int32)), (.ref a11), (.ref a11)])) _
    refine XS.sipush X51.here hx rfl (hb hby at_133) ?_
    show Steps p.tables e below (T51.setTop (mkF m 136 #[.val (.int p1), .val (.int p2), .val (.int p3), .unset, .unset, .unset, .unset] [(.int (8304 : Int32)), (.int (20 : Int32)), (.ref a11), (.ref a11)])) _
    refine st53 _ ?_
    show Steps p.tables e below (T53.setTop (mkF m 137 #[.val (.int p1), .val (.int p2), .val (.int p3), .unset, .unset, .unset, .unset] [(.ref a11)])) _
    refine XS.dup X53.here hx rfl (hb hby at_137) rfl rfl ?_
    show Steps p.tables e below (T53.setTop (mkF m 138 #[.val (.int p1), .val (.int p2), .val (.int p3), .unset, .unset, .unset, .unset] [(.ref a11), (.ref a11)])) _
    refine XS.bipush X53.here hx rfl (hb hby at_138) ?_
    show Steps p.tables e below (T53.setTop (mkF m 140 #[.val (.int p1), .val (.int p2), .val (.int p3), .unset, .unset, .unset, .unset] [(.int (21 : Int32)), (.ref a11), (.ref a11)])) _
    refine XS.sipush X53.here hx rfl (hb hby at_140) ?_
    show Steps p.tables e below (T53.setTop (mkF m 143 #[.val (.int p1), .val (.int p2), .val (.int p3), .unset, .unset, .unset, .unset] [(.int (8591 : Int32)), (.int (21 : Int32)), (.ref a11), (.ref a11)])) _
    refine st55 _ ?_
    show Steps p.tables e below (T55.setTop (mkF m 144 #[.val (.int p1), .val (.int p2), .val (.int p3), .unset, .unset, .unset, .unset] [(.ref a11)])) _
    refine XS.dup X55.here hx rfl (hb hby at_144) rfl rfl ?_
    show Steps p.tables e below (T55.setTop (mkF m 145 #[.val (.int p1), .val (.int p2), .val (.int p3), .unset, .unset, .unset, .unset] [(.ref a11), (.ref a11)])) _
    refine XS.bipush X55.here hx rfl (hb hby at_145) ?_
    show Steps p.tables e below (T55.setTop (mkF m 147 #[.val (.int p1), .val (.int p2), .val (.int p3), .unset, .unset, .unset, .unset] [(.int (22 : Int32)), (.ref a11), (.ref a11)])) _
    refine XS.sipush X55.here hx rfl (hb hby at_147) ?_
    show Steps p.tables e below (T55.setTop (mkF m 150 #[.val (.int p1), .val (.int p2), .val (.int p3), .unset, .unset, .unset, .unset] [(.int (11264 : Int32)), (.int (22 : Int32)), (.ref a11), (.ref a11)])) _
    refine st57 _ ?_
    show Steps p.tables e below (T57.setTop (mkF m 151 #[.val (.int p1), .val (.int p2), .val (.int p3), .unset, .unset, .unset, .unset] [(.ref a11)])) _
    refine XS.dup X57.here hx rfl (hb hby at_151) rfl rfl ?_
    show Steps p.tables e below (T57.setTop (mkF m 152 #[.val (.int p1), .val (.int p2), .val (.int p3), .unset, .unset, .unset, .unset] [(.ref a11), (.ref a11)])) _
    refine XS.bipush X57.here hx rfl (hb hby at_152) ?_
    show Steps p.tables e below (T57.setTop (mkF m 154 #[.val (.int p1), .val (.int p2), .val (.int p3), .unset, .unset, .unset, .unset] [(.int (23 : Int32)), (.ref a11), (.ref a11)])) _
    refine XS.sipush X57.here hx rfl (hb hby at_154) ?_
    show Steps p.tables e below (T57.setTop (mkF m 157 #[.val (.int p1), .val (.int p2), .val (.int p3), .unset, .unset, .unset, .unset] [(.int (12271 : Int32)), (.int (23 : Int32)), (.ref a11), (.ref a11)])) _
    refine st59 _ ?_
    show Steps p.tables e below (T59.setTop (mkF m 158 #[.val (.int p1), .val (.int p2), .val (.int p3), .unset, .unset, .unset, .unset] [(.ref a11)])) _
    refine XS.dup X59.here hx rfl (hb hby at_158) rfl rfl ?_
    show Steps p.tables e below (T59.setTop (mkF m 159 #[.val (.int p1), .val (.int p2), .val (.int p3), .unset, .unset, .unset, .unset] [(.ref a11), (.ref a11)])) _
    refine XS.bipush X59.here hx rfl (hb hby at_159) ?_
    show Steps p.tables e below (T59.setTop (mkF m 161 #[.val (.int p1), .val (.int p2), .val (.int p3), .unset, .unset, .unset, .unset] [(.int (24 : Int32)), (.ref a11), (.ref a11)])) _
    refine XS.sipush X59.here hx rfl (hb hby at_161) ?_
    show Steps p.tables e below (T59.setTop (mkF m 164 #[.val (.int p1), .val (.int p2), .val (.int p3), .unset, .unset, .unset, .unset] [(.int (12289 : Int32)), (.int (24 : Int32)), (.ref a11), (.ref a11)])) _
    refine st61 _ ?_
    show Steps p.tables e below (T61.setTop (mkF m 165 #[.val (.int p1), .val (.int p2), .val (.int p3), .unset, .unset, .unset, .unset] [(.ref a11)])) _
    refine XS.dup X61.here hx rfl (hb hby at_165) rfl rfl ?_
    show Steps p.tables e below (T61.setTop (mkF m 166 #[.val (.int p1), .val (.int p2), .val (.int p3), .unset, .unset, .unset, .unset] [(.ref a11), (.ref a11)])) _
    refine XS.bipush X61.here hx rfl (hb hby at_166) ?_
    show Steps p.tables e below (T61.setTop (mkF m 168 #[.val (.int p1), .val (.int p2), .val (.int p3), .unset, .unset, .unset, .unset] [(.int (25 : Int32)), (.ref a11), (.ref a11)])) _
    refine X61.ldcI hx hown (mvT hZ (hw _ (List.mem_of_getElem? (i := 1) rfl))) rfl (hb hby at_168) ?_
    show Steps p.tables e below (T61.setTop (mkF m 170 #[.val (.int p1), .val (.int p2), .val (.int p3), .unset, .unset, .unset, .unset] [(.int (55295 : Int32)), (.int (25 : Int32)), (.ref a11), (.ref a11)])) _
    refine st63 _ ?_
    show Steps p.tables e below (T63.setTop (mkF m 171 #[.val (.int p1), .val (.int p2), .val (.int p3), .unset, .unset, .unset, .unset] [(.ref a11)])) _
    refine XS.dup X63.here hx rfl (hb hby at_171) rfl rfl ?_
    show Steps p.tables e below (T63.setTop (mkF m 172 #[.val (.int p1), .val (.int p2), .val (.int p3), .unset, .unset, .unset, .unset] [(.ref a11), (.ref a11)])) _
    refine XS.bipush X63.here hx rfl (hb hby at_172) ?_
    show Steps p.tables e below (T63.setTop (mkF m 174 #[.val (.int p1), .val (.int p2), .val (.int p3), .unset, .unset, .unset, .unset] [(.int (26 : Int32)), (.ref a11), (.ref a11)])) _
    refine X63.ldcI hx hown (mvT hZ (hw _ (List.mem_of_getElem? (i := 2) rfl))) rfl (hb hby at_174) ?_
    show Steps p.tables e below (T63.setTop (mkF m 176 #[.val (.int p1), .val (.int p2), .val (.int p3), .unset, .unset, .unset, .unset] [(.int (63744 : Int32)), (.int (26 : Int32)), (.ref a11), (.ref a11)])) _
    refine st65 _ ?_
    show Steps p.tables e below (T65.setTop (mkF m 177 #[.val (.int p1), .val (.int p2), .val (.int p3), .unset, .unset, .unset, .unset] [(.ref a11)])) _
    refine XS.dup X65.here hx rfl (hb hby at_177) rfl rfl ?_
    show Steps p.tables e below (T65.setTop (mkF m 178 #[.val (.int p1), .val (.int p2), .val (.int p3), .unset, .unset, .unset, .unset] [(.ref a11), (.ref a11)])) _
    refine XS.bipush X65.here hx rfl (hb hby at_178) ?_
    show Steps p.tables e below (T65.setTop (mkF m 180 #[.val (.int p1), .val (.int p2), .val (.int p3), .unset, .unset, .unset, .unset] [(.int (27 : Int32)), (.ref a11), (.ref a11)])) _
    refine X65.ldcI hx hown (mvT hZ (hw _ (List.mem_of_getElem? (i := 3) rfl))) rfl (hb hby at_180) ?_
    show Steps p.tables e below (T65.setTop (mkF m 182 #[.val (.int p1), .val (.int p2), .val (.int p3), .unset, .unset, .unset, .unset] [(.int (64975 : Int32)), (.int (27 : Int32)), (.ref a11), (.ref a11)])) _
    refine st67 _ ?_
    show Steps p.tables e below (T67.setTop (mkF m 183 #[.val (.int p1), .val (.int p2), .val (.int p3), .unset, .unset, .unset, .unset] [(.ref a11)])) _
    refine XS.dup X67.here hx rfl (hb hby at_183) rfl rfl ?_
    show Steps p.tables e below (T67.setTop (mkF m 184 #[.val (.int p1), .val (.int p2), .val (.int p3), .unset, .unset, .unset, .unset] [(.ref a11), (.ref a11)])) _
    refine XS.bipush X67.here hx rfl (hb hby at_184) ?_
    show Steps p.tables e below (T67.setTop (mkF m 186 #[.val (.int p1), .val (.int p2), .val (.int p3), .unset, .unset, .unset, .unset] [(.int (28 : Int32)), (.ref a11), (.ref a11)])) _
    refine X67.ldcI hx hown (mvT hZ (hw _ (List.mem_of_getElem? (i := 4) rfl))) rfl (hb hby at_186) ?_
    show Steps p.tables e below (T67.setTop (mkF m 188 #[.val (.int p1), .val (.int p2), .val (.int p3), .unset, .unset, .unset, .unset] [(.int (65008 : Int32)), (.int (28 : Int32)), (.ref a11), (.ref a11)])) _
    refine st69 _ ?_
    show Steps p.tables e below (T69.setTop (mkF m 189 #[.val (.int p1), .val (.int p2), .val (.int p3), .unset, .unset, .unset, .unset] [(.ref a11)])) _
    refine XS.dup X69.here hx rfl (hb hby at_189) rfl rfl ?_
    show Steps p.tables e below (T69.setTop (mkF m 190 #[.val (.int p1), .val (.int p2), .val (.int p3), .unset, .unset, .unset, .unset] [(.ref a11), (.ref a11)])) _
    refine XS.bipush X69.here hx rfl (hb hby at_190) ?_
    show Steps p.tables e below (T69.setTop (mkF m 192 #[.val (.int p1), .val (.int p2), .val (.int p3), .unset, .unset, .unset, .unset] [(.int (29 : Int32)), (.ref a11), (.ref a11)])) _
    refine X69.ldcI hx hown (mvT hZ (hw _ (List.mem_of_getElem? (i := 5) rfl))) rfl (hb hby at_192) ?_
    show Steps p.tables e below (T69.setTop (mkF m 194 #[.val (.int p1), .val (.int p2), .val (.int p3), .unset, .unset, .unset, .unset] [(.int (65533 : Int32)), (.int (29 : Int32)), (.ref a11), (.ref a11)])) _
    refine st71 _ ?_
    show Steps p.tables e below (T71.setTop (mkF m 195 #[.val (.int p1), .val (.int p2), .val (.int p3), .unset, .unset, .unset, .unset] [(.ref a11)])) _
    refine XS.dup X71.here hx rfl (hb hby at_195) rfl rfl ?_
    show Steps p.tables e below (T71.setTop (mkF m 196 #[.val (.int p1), .val (.int p2), .val (.int p3), .unset, .unset, .unset, .unset] [(.ref a11), (.ref a11)])) _
    refine XS.bipush X71.here hx rfl (hb hby at_196) ?_
    show Steps p.tables e below (T71.setTop (mkF m 198 #[.val (.int p1), .val (.int p2), .val (.int p3), .unset, .unset, .unset, .unset] [(.int (30 : Int32)), (.ref a11), (.ref a11)])) _
    refine X71.ldcI hx hown (mvT hZ (hw _ (List.mem_of_getElem? (i := 6) rfl))) rfl (hb hby at_198) ?_
    show Steps p.tables e below (T71.setTop (mkF m 200 #[.val (.int p1), .val (.int p2), .val (.int p3), .unset, .unset, .unset, .unset] [(.int (65536 : Int32)), (.int (30 : Int32)), (.ref a11), (.ref a11)])) _
    refine st73 _ ?_
    show Steps p.tables e below (T73.setTop (mkF m 201 #[.val (.int p1), .val (.int p2), .val (.int p3), .unset, .unset, .unset, .unset] [(.ref a11)])) _
    refine XS.dup X73.here hx rfl (hb hby at_201) rfl rfl ?_
    show Steps p.tables e below (T73.setTop (mkF m 202 #[.val (.int p1), .val (.int p2), .val (.int p3), .unset, .unset, .unset, .unset] [(.ref a11), (.ref a11)])) _
    refine XS.bipush X73.here hx rfl (hb hby at_202) ?_
    show Steps p.tables e below (T73.setTop (mkF m 204 #[.val (.int p1), .val (.int p2), .val (.int p3), .unset, .unset, .unset, .unset] [(.int (31 : Int32)), (.ref a11), (.ref a11)])) _
    refine X73.ldcI hx hown (mvT hZ (hw _ (List.mem_of_getElem? (i := 7) rfl))) rfl (hb hby at_204) ?_
    show Steps p.tables e below (T73.setTop (mkF m 206 #[.val (.int p1), .val (.int p2), .val (.int p3), .unset, .unset, .unset, .unset] [(.int (983039 : Int32)), (.int (31 : Int32)), (.ref a11), (.ref a11)])) _
    refine st75 _ ?_
    show Steps p.tables e below (T75.setTop (mkF m 207 #[.val (.int p1), .val (.int p2), .val (.int p3), .unset, .unset, .unset, .unset] [(.ref a11)])) _
    refine XS.dup X75.here hx rfl (hb hby at_207) rfl rfl ?_
    show Steps p.tables e below (T75.setTop (mkF m 208 #[.val (.int p1), .val (.int p2), .val (.int p3), .unset, .unset, .unset, .unset] [(.ref a11), (.ref a11)])) _
    refine XS.bipush X75.here hx rfl (hb hby at_208) ?_
    show Steps p.tables e below (T75.setTop (mkF m 210 #[.val (.int p1), .val (.int p2), .val (.int p3), .unset, .unset, .unset, .unset] [(.int (32 : Int32)), (.ref a11), (.ref a11)])) _
    refine X75.ldcI hx hown (mvT hZ (hw _ (List.mem_of_getElem? (i := 8) rfl))) rfl (hb hby at_210) ?_
    show Steps p.tables e below (T75.setTop (mkF m 212 #[.val (.int p1), .val (.int p2), .val (.int p3), .unset, .unset, .unset, .unset] [(.int (1114111 : Int32)), (.int (32 : Int32)), (.ref a11), (.ref a11)])) _
    refine st77 _ ?_
    show Steps p.tables e below (T77.setTop (mkF m 213 #[.val (.int p1), .val (.int p2), .val (.int p3), .unset, .unset, .unset, .unset] [(.ref a11)])) _
    refine XS.dup X77.here hx rfl (hb hby at_213) rfl rfl ?_
    show Steps p.tables e below (T77.setTop (mkF m 214 #[.val (.int p1), .val (.int p2), .val (.int p3), .unset, .unset, .unset, .unset] [(.ref a11), (.ref a11)])) _
    refine XS.bipush X77.here hx rfl (hb hby at_214) ?_
    show Steps p.tables e below (T77.setTop (mkF m 216 #[.val (.int p1), .val (.int p2), .val (.int p3), .unset, .unset, .unset, .unset] [(.int (33 : Int32)), (.ref a11), (.ref a11)])) _
    refine X77.ldcI hx hown (mvT hZ (hw _ (List.mem_of_getElem? (i := 9) rfl))) rfl (hb hby at_216) ?_
    show Steps p.tables e below (T77.setTop (mkF m 218 #[.val (.int p1), .val (.int p2), .val (.int p3), .unset, .unset, .unset, .unset] [(.int (-2147483648 : Int32)), (.int (33 : Int32)), (.ref a11), (.ref a11)])) _
    refine st79 _ ?_
    show Steps p.tables e below (T79.setTop (mkF m 219 #[.val (.int p1), .val (.int p2), .val (.int p3), .unset, .unset, .unset, .unset] [(.ref a11)])) _
    refine XS.dup X79.here hx rfl (hb hby at_219) rfl rfl ?_
    show Steps p.tables e below (T79.setTop (mkF m 220 #[.val (.int p1), .val (.int p2), .val (.int p3), .unset, .unset, .unset, .unset] [(.ref a11), (.ref a11)])) _
    refine XS.bipush X79.here hx rfl (hb hby at_220) ?_
    show Steps p.tables e below (T79.setTop (mkF m 222 #[.val (.int p1), .val (.int p2), .val (.int p3), .unset, .unset, .unset, .unset] [(.int (34 : Int32)), (.ref a11), (.ref a11)])) _
    refine X79.ldcI hx hown (mvT hZ (hw _ (List.mem_of_getElem? (i := 10) rfl))) rfl (hb hby at_222) ?_
    show Steps p.tables e below (T79.setTop (mkF m 224 #[.val (.int p1), .val (.int p2), .val (.int p3), .unset, .unset, .unset, .unset] [(.int (2147483647 : Int32)), (.int (34 : Int32)), (.ref a11), (.ref a11)])) _
    refine st81 _ ?_
    show Steps p.tables e below (T81.setTop (mkF m 225 #[.val (.int p1), .val (.int p2), .val (.int p3), .unset, .unset, .unset, .unset] [(.ref a11)])) _
    refine XS.astoreN X81.here hx rfl (hb hby at_225) rfl rfl (l' := #[.val (.int p1), .val (.int p2), .val (.int p3), .val (.ref a11), .unset, .unset, .unset]) rfl ?_
    show Steps p.tables e below (T81.setTop (mkF m 226 #[.val (.int p1), .val (.int p2), .val (.int p3), .val (.ref a11), .unset, .unset, .unset] [])) _
    exact k
  exact J226 _ _ _ _ X81 N81 e81 Z81 V81
set_option maxRecDepth 65536 in
set_option maxHeartbeats 40000000 in
theorem comes_1 {Post : Tables → Env → Array Value → State → Outcome → State → Prop} (hpost : ∀ tb e args s v u, (limb_1_1.after args s (.returned v) u = true ∧ limb_1_2.after args s (.returned v) u = true ∧ True) → FrameEnd s (.returned v) u (Jvm.fieldLocs frame_1_writes args s ++ Jvm.arrayLocs frame_1_arrays args s ++ Jvm.staticLocs frame_1_statics s) 16 192 → Post tb e args s (.returned v) u) :
    ArmFor flags0 classFile x code maxLocals ret World_1 tables_1 room_1 Calls_1 rest_1 Pre_1 Post := by
  intro l hfl _ _ p e ha hc hk s m args below hf hA hF happ hP
  obtain ⟨hcalls, hrest, hpre⟩ := hP
  obtain ⟨-, -, -, hnamed, -, -, -, hat⟩ := (Spec.applies_iff hf).mp happ
  obtain ⟨hg, hn⟩ := and_e (Cond.before_iff.mp (show (Jvm.Cond.and given_1 narrow_1).before args s = true from hpre))
  obtain ⟨g0, r0⟩ := and_e hg
  obtain ⟨g1, r1⟩ := and_e r0
  obtain ⟨g2, r2⟩ := and_e r1
  obtain ⟨w0, w1, w2, rfl⟩ : ∃ w0 w1 w2 : Value, args = #[w0, w1, w2] := by
    have hs : args.size = 3 := by simpa [Cond.value, given_1] using g0
    obtain ⟨L⟩ := args
    match L, hs with
    | [w0, w1, w2], _ => exact ⟨w0, w1, w2, rfl⟩
  have hw := fun d (hd : d ∈ tables_1) => atoms_spec (ws := Jvm.Cond.code x code maxLocals ret :: tables_1) hat d (List.mem_cons_of_mem _ hd)
  obtain ⟨i0, y0⟩ := is_v g1
  obtain rfl : w0 = (.int i0) := Option.some.inj y0
  obtain ⟨i1, y1⟩ := is_v g2
  obtain rfl : w1 = (.int i1) := Option.some.inj y1
  obtain ⟨i2, y2⟩ := is_v r2
  obtain rfl : w2 = (.int i2) := Option.some.inj y2
  obtain ⟨n, o, h1, h2, h3, _, L, rfl, ⟨rfl, N⟩, hq⟩ := rm0 l s _ hw tables_1 i0 i1 i2 s.heap s.heap.size (Nat.le_refl _) p e ha hc hk s m _ below hf ((Spec.applies_iff_loose hf).mp happ).1 ⟨rfl, State.Warmed39.refl s, rfl⟩ trivial
  refine ⟨n, _, h1, h2, h3, hpost _ _ _ _ _ _ ⟨Cond.after_iff.mpr rfl, Cond.after_iff.mpr (eq_i res_at (Term.int_eval (1)) rfl), trivial⟩ ⟨hq.1, hq.2.1, (hq.2.2.sift fun y hy => Or.inr (N y hy)).mono (by decide) (by decide)⟩⟩
theorem main_1_1 : Claimed_1_1 := comes_1 fun _ _ _ _ _ _ h hF => ⟨h.1, hF⟩
theorem main_1_2 : Claimed_1_2 := comes_1 fun _ _ _ _ _ _ h hF => ⟨h.2.1, hF⟩
end Jvm.Pilot.@@N@@
namespace Jvm.Pilot.@@N@@
open Jvm Jvm.ClassFile Sem Op Lib Jvm.Free Jvm.Stand Jvm.Pilot.@@N@@.Jvm.D
/-! MADE BY PROGRAM (witnessworld.py) out of the Statement's table words and the real class files: 9 classes; the members and pool entries that the words name. The judged class is class 1, her method 3. -/
namespace start1
open Jvm.ClassFile
def u (s : String) : CpInfo := .utf8 (stringToUtf16 s)
/-- a pool by its gaps: so many unusable entries, then the entry; so many at the end -/
def gap : Nat → List CpInfo → List CpInfo
  | 0, r => r
  | n + 1, r => .unusable :: gap n r
def poolList (es : List (Nat × CpInfo)) (last : Nat) : List CpInfo := es.foldr (fun e r => gap e.1 (e.2 :: r)) (gap last [])
def pool (es : List (Nat × CpInfo)) (last : Nat) : Array CpInfo := ⟨poolList es last⟩
def fileOf (pool : Array CpInfo) (this : Nat) (attrs : Array Attribute := #[]) (ms : Array MethodInfo := #[]) (fl : Nat := 33) (sup : Nat := 0) (ifs : Array Nat := #[]) (fds : Array FieldInfo := #[]) : ClassFile where
  minorVersion := 0
  majorVersion := 65
  constantPool := pool
  accessFlags := fl
  thisClass := this
  superClass := sup
  interfaces := ifs
  fields := fds
  methods := ms
  attributes := attrs
def plain (name : String) (sup : Option ClassId) : Class where
  name := name
  kind := .ordinary
  loader := none
  accessFlags := 33
  super := sup
  interfaces := #[]
  cf := none
  fields := #[]
  methods := #[]
  instanceTypes := #[]
  staticTypes := #[]
  resolved := #[]
  callSites := []
  init := .initialized
  statics := none
  mirror := none

def pool0 : Array CpInfo := pool [(5, u "<init>"), (0, u "()V"), (1, .class_ 10), (1, u "java/lang/Object")] 113

def k0m0 : Method := { name := "<init>", desc := "()V", sig := { parameters := [], returnType := none }, accessFlags := 1, code := none }
/-- java/lang/Object -/
def k0 : Class := { plain "java/lang/Object" none with
  accessFlags := 33
  interfaces := #[]
  cf := some (fileOf pool0 8 #[] #[{ accessFlags := 1, nameIndex := 5, descriptorIndex := 6, attributes := #[] }] 33 0 #[] #[])
  fields := #[]
  methods := #[k0m0]
  instanceTypes := #[]
  staticTypes := #[]
  resolved := Array.replicate 124 none
  statics := none }

def pool1 : Array CpInfo := pool [(2, .class_ 4), (1, u "java/lang/Object"), (0, u "<init>"), (0, u "()V"), (0, .integer 983039), (0, .methodref 9 10), (0, .class_ 11), (0, .nameAndType 12 13), (0, u "com/example/kdata/kdata/XmlCharsIsNameStartCharPinLaw"), (0, u "in"), (0, u "(III)Z"), (0, .integer 55296), (0, .integer 63743), (0, .integer 64976), (0, .integer 65007), (0, .integer 65534), (0, .integer 65535), (0, .integer 55295), (0, .integer 63744), (0, .integer 64975), (0, .integer 65008), (0, .integer 65533), (0, .integer 65536), (0, .integer 1114111), (2, .integer 2147483648), (0, .integer 2147483647), (0, .methodref 32 33), (0, .class_ 34), (0, .nameAndType 35 36), (0, u "com/example/kdata/kdata/XmlChars"), (0, u "isNameStartChar"), (0, u "(I)Z"), (0, .methodref 9 38), (0, .nameAndType 39 36), (0, u "ref"), (3, u "law")] 4

def k1m0 : Method := { name := "<init>", desc := "()V", sig := { parameters := [], returnType := none }, accessFlags := 1, code := none }
def k1c1 : Code := { maxStack := 2, maxLocals := 3, code := method_2_code, exceptionTable := #[], attributes := #[] }
def k1m1 : Method := { name := "in", desc := "(III)Z", sig := { parameters := [.int, .int, .int], returnType := some .boolean }, accessFlags := 10, code := some k1c1 }
def k1c2 : Code := { maxStack := 3, maxLocals := 2, code := method_3_code, exceptionTable := #[], attributes := #[] }
def k1m2 : Method := { name := "ref", desc := "(I)Z", sig := { parameters := [.int], returnType := some .boolean }, accessFlags := 10, code := some k1c2 }
def k1c3 : Code := { maxStack := 4, maxLocals := 7, code := code, exceptionTable := #[], attributes := #[] }
def k1m3 : Method := { name := "law", desc := "(III)Z", sig := { parameters := [.int, .int, .int], returnType := some .boolean }, accessFlags := 9, code := some k1c3 }
/-- com/example/kdata/kdata/XmlCharsIsNameStartCharPinLaw -/
def k1 : Class := { plain "com/example/kdata/kdata/XmlCharsIsNameStartCharPinLaw" (some 0) with
  accessFlags := 49
  interfaces := #[]
  cf := some (fileOf pool1 9 #[] #[{ accessFlags := 1, nameIndex := 5, descriptorIndex := 6, attributes := #[] }, { accessFlags := 10, nameIndex := 12, descriptorIndex := 13, attributes := #[] }, { accessFlags := 10, nameIndex := 39, descriptorIndex := 36, attributes := #[] }, { accessFlags := 9, nameIndex := 43, descriptorIndex := 13, attributes := #[] }] 49 2 #[] #[])
  fields := #[]
  methods := #[k1m0, k1m1, k1m2, k1m3]
  instanceTypes := #[]
  staticTypes := #[]
  resolved := Array.replicate 48 none
  statics := none }

def pool2 : Array CpInfo := pool [(2, .class_ 4), (1, u "java/lang/Object"), (0, u "<init>"), (0, u "()V"), (1, .class_ 10), (1, u "com/example/kdata/kdata/XmlChars"), (0, u "ASCII_NAME_START"), (0, u "[Z"), (2, u "ASCII_NAME"), (0, .integer 55295), (1, .integer 65533), (0, .integer 65536), (1, .integer 63744), (0, .integer 64975), (0, .integer 65008), (0, .integer 983039), (2, u "isNameStartChar"), (0, u "(I)Z")] 81

def k2m0 : Method := { name := "<init>", desc := "()V", sig := { parameters := [], returnType := none }, accessFlags := 2, code := none }
def k2c1 : Code := { maxStack := 2, maxLocals := 1, code := prog_134_method_7_code, exceptionTable := #[], attributes := #[] }
def k2m1 : Method := { name := "isNameStartChar", desc := "(I)Z", sig := { parameters := [.int], returnType := some .boolean }, accessFlags := 9, code := some k2c1 }
/-- com/example/kdata/kdata/XmlChars -/
def k2 : Class := { plain "com/example/kdata/kdata/XmlChars" (some 0) with
  accessFlags := 49
  interfaces := #[]
  cf := some (fileOf pool2 8 #[] #[{ accessFlags := 2, nameIndex := 5, descriptorIndex := 6, attributes := #[] }, { accessFlags := 9, nameIndex := 27, descriptorIndex := 28, attributes := #[] }] 49 2 #[] #[{ accessFlags := 26, nameIndex := 11, descriptorIndex := 12, attributes := #[] }, { accessFlags := 26, nameIndex := 15, descriptorIndex := 12, attributes := #[] }])
  fields := #[{ name := "ASCII_NAME_START", type := (.array .boolean), accessFlags := 26, slot := 0, constantValue := 0 }, { name := "ASCII_NAME", type := (.array .boolean), accessFlags := 26, slot := 1, constantValue := 0 }]
  methods := #[k2m0, k2m1]
  instanceTypes := #[]
  staticTypes := #[(.array .boolean), (.array .boolean)]
  resolved := Array.replicate 110 none
  statics := none }

def pool3 : Array CpInfo := pool [(1, u "java/lang/Cloneable"), (0, .class_ 1), (0, u "java/lang/Object"), (0, .class_ 3)] 3

/-- java/lang/Cloneable -/
def k3 : Class := { plain "java/lang/Cloneable" (some 0) with
  accessFlags := 1537
  interfaces := #[]
  cf := some (fileOf pool3 2 #[] #[] 1537 4 #[] #[])
  fields := #[]
  methods := #[]
  instanceTypes := #[]
  staticTypes := #[]
  resolved := Array.replicate 8 none
  statics := none }

def pool4 : Array CpInfo := pool [(1, u "java/io/Serializable"), (0, .class_ 1), (0, u "java/lang/Object"), (0, .class_ 3)] 3

/-- java/io/Serializable -/
def k4 : Class := { plain "java/io/Serializable" (some 0) with
  accessFlags := 1537
  interfaces := #[]
  cf := some (fileOf pool4 2 #[] #[] 1537 4 #[] #[])
  fields := #[]
  methods := #[]
  instanceTypes := #[]
  staticTypes := #[]
  resolved := Array.replicate 8 none
  statics := none }

/-- the primitive byte -/
def k5 : Class := { plain "byte" none with kind := .primitive 'B', accessFlags := 0x411 }
/-- [B -/
def k6 : Class := { plain "[B" (some 0) with kind := .array 5 .byte, interfaces := #[3, 4], accessFlags := 1041 }

/-- the primitive int -/
def k7 : Class := { plain "int" none with kind := .primitive 'I', accessFlags := 0x411 }
/-- [I -/
def k8 : Class := { plain "[I" (some 0) with kind := .array 7 .int, interfaces := #[3, 4], accessFlags := 1041 }

def heap : Heap := #[]
def classes : Array Class := #[k0, k1, k2, k3, k4, k5, k6, k7, k8]
def interned : List (Array UInt16 × Addr) := []
def slotsUsed : Nat := 0
def theMethod : MethodId := ⟨1, 3⟩
def args0 : Array Value := #[.int 5, .int 1, .int 2]
def aboutOver (below : List Frame) : State where
  vm := { classes := classes, interned := interned.toArray }
  heap := heap
  slotsUsed := slotsUsed
  threads := #[{ frames := .invoking theMethod args0 :: below }]
def below0 : List Frame := [.native { method := ⟨0, 0⟩, args := #[] }]
def about1 : State := aboutOver below0
def p0 : Program := .bare "" "" ""
def e0 : Env := launch0.env 0 0 0
theorem w_frames : about1.frames = Frame.invoking theMethod args0 :: below0 := rfl
set_option maxRecDepth 65536 in
theorem w_args : argsFit about1.vm theMethod args0 = true := by decide +kernel
set_option maxRecDepth 65536 in
theorem w_heap : heapFits about1 = true := by decide +kernel
set_option maxRecDepth 65536 in
theorem w_runnable : about1.curStatus? = some .runnable := by decide +kernel
set_option maxRecDepth 65536 in
theorem w_alone : about1.alone = true := by decide +kernel
set_option maxRecDepth 65536 in
theorem w_named : about1.methodNamed? x = some theMethod := by decide +kernel
set_option maxRecDepth 65536 in
theorem w_hears : about1.hears theMethod below0 = true := by decide +kernel
set_option maxRecDepth 65536 in
theorem w_ripe : about1.ripe theMethod args0 below0 = true := by decide +kernel
theorem w_running : about1.status = .running := rfl
set_option maxRecDepth 65536 in
theorem w_room : about1.hasRoom e0.platform room_1 = true :=
  launch0.hasRoom_least _ room_1 (by decide +kernel) (by decide +kernel) (by decide +kernel) (by decide +kernel) (by decide +kernel) (by decide +kernel)
theorem allAtoms_all (ts : List Jvm.Cond) (a : Array Jvm.Value) (st : Jvm.State) : (allAtoms ts).before a st = ts.all (fun c => c.before a st) := by
  induction ts with
  | nil => rfl
  | cons c t ih =>
    show (Jvm.Cond.and c (allAtoms t)).before a st = _
    rw [Jvm.Cond.before_and, ih, List.all_cons]
def words1 : List Jvm.Cond := Jvm.Cond.code x code maxLocals ret :: tables_1
/-- a 'code' word, met by the world's own term for the bytes: nothing is compared byte by byte -/
theorem code_word {y : MethodName} {bytes : ByteArray} {mx : Nat} {rt : Option FieldType} {a : Array Value} {s : State} {m : MethodId} {meth : Method} {c : Code} (h1 : s.methodNamed? y = some m) (h2 : s.vm.method? m = some meth) (h3 : meth.code = some c) (h4 : c.code = bytes)
    (h5 : (c.maxLocals == mx && c.exceptionTable.isEmpty && decide (c.maxStack ≤ mostOperands) && decide (meth.sig.returnType = rt) && !meth.locks && decide (parseMethodDescriptor y.desc = some meth.sig)) = true) : (Jvm.Cond.code y bytes mx rt).before a s = true := by
  simp only [Bool.and_eq_true, beq_iff_eq, Bool.not_eq_true', decide_eq_true_eq] at h5
  obtain ⟨⟨⟨⟨⟨g1, g2⟩, g3⟩, g4⟩, g5⟩, g6⟩ := h5
  simp [Cond.before, Cond.holds, Cond.value, h1, h2, h3, h4, g1, g2, g3, g4, g5, g6]
def isCode : Jvm.Cond → Bool
  | .code _ _ _ _ => true
  | _ => false
theorem all_split {L : List Jvm.Cond} {P : Jvm.Cond → Bool} (h1 : L.all (fun c => isCode c || P c) = true) (h2 : ∀ c ∈ L.filter isCode, P c = true) : L.all P = true := by
  refine List.all_eq_true.mpr fun c hc => ?_
  have h := List.all_eq_true.mp h1 c hc
  rcases Bool.eq_false_or_eq_true (isCode c) with hi | hi
  · exact h2 c (List.mem_filter.mpr ⟨hc, hi⟩)
  · simpa [hi] using h
set_option maxRecDepth 65536 in
theorem w_c0 : (Jvm.Cond.code x code maxLocals ret).before args0 about1 = true := code_word (m := ⟨1, 3⟩) (meth := k1m3) (c := k1c3) (by decide +kernel) rfl rfl rfl (by decide +kernel)
set_option maxRecDepth 65536 in
theorem w_c1 : (Jvm.Cond.code ({ cls := "com/example/kdata/kdata/XmlChars", name := "isNameStartChar", desc := "(I)Z" } : Jvm.MethodName) prog_134_method_7_code (1 : Nat) (Option.some Jvm.ClassFile.FieldType.boolean)).before args0 about1 = true := code_word (m := ⟨2, 1⟩) (meth := k2m1) (c := k2c1) (by decide +kernel) rfl rfl rfl (by decide +kernel)
set_option maxRecDepth 65536 in
theorem w_c2 : (Jvm.Cond.code ({ cls := "com/example/kdata/kdata/XmlCharsIsNameStartCharPinLaw", name := "ref", desc := "(I)Z" } : Jvm.MethodName) method_3_code (2 : Nat) (Option.some Jvm.ClassFile.FieldType.boolean)).before args0 about1 = true := code_word (m := ⟨1, 2⟩) (meth := k1m2) (c := k1c2) (by decide +kernel) rfl rfl rfl (by decide +kernel)
set_option maxRecDepth 65536 in
theorem w_c3 : (Jvm.Cond.code ({ cls := "com/example/kdata/kdata/XmlCharsIsNameStartCharPinLaw", name := "in", desc := "(III)Z" } : Jvm.MethodName) method_2_code (3 : Nat) (Option.some Jvm.ClassFile.FieldType.boolean)).before args0 about1 = true := code_word (m := ⟨1, 1⟩) (meth := k1m1) (c := k1c1) (by decide +kernel) rfl rfl rfl (by decide +kernel)
def codes1 : List Jvm.Cond := [Jvm.Cond.code x code maxLocals ret, Jvm.Cond.code ({ cls := "com/example/kdata/kdata/XmlChars", name := "isNameStartChar", desc := "(I)Z" } : Jvm.MethodName) prog_134_method_7_code (1 : Nat) (Option.some Jvm.ClassFile.FieldType.boolean), Jvm.Cond.code ({ cls := "com/example/kdata/kdata/XmlCharsIsNameStartCharPinLaw", name := "ref", desc := "(I)Z" } : Jvm.MethodName) method_3_code (2 : Nat) (Option.some Jvm.ClassFile.FieldType.boolean), Jvm.Cond.code ({ cls := "com/example/kdata/kdata/XmlCharsIsNameStartCharPinLaw", name := "in", desc := "(III)Z" } : Jvm.MethodName) method_2_code (3 : Nat) (Option.some Jvm.ClassFile.FieldType.boolean)]
set_option maxRecDepth 65536 in
theorem codes_eq : words1.filter isCode = codes1 := rfl
theorem w_codes : ∀ c ∈ words1.filter isCode, c.before args0 about1 = true := by
  rw [codes_eq]
  intro c hc
  simp only [codes1, List.mem_cons, List.not_mem_nil, or_false] at hc
  rcases hc with rfl | rfl | rfl | rfl
  · exact w_c0
  · exact w_c1
  · exact w_c2
  · exact w_c3
set_option maxRecDepth 65536 in
theorem w_t1 : (words1.take 24).all (fun c => isCode c || c.before args0 about1) = true := by decide +kernel
set_option maxRecDepth 65536 in
theorem w_t2 : (words1.drop 24).all (fun c => isCode c || c.before args0 about1) = true := by decide +kernel
theorem w_tables : (allAtoms (Jvm.Cond.code x code maxLocals ret :: tables_1)).before args0 about1 = true := by
  rw [allAtoms_all]
  show words1.all (fun c => c.before args0 about1) = true
  refine all_split ?_ w_codes
  rw [← List.take_append_drop 24 words1, List.all_append, w_t1, w_t2]
  rfl
set_option maxRecDepth 65536 in
theorem w_case : (Jvm.Cond.and given_1 narrow_1).before args0 about1 = true := by decide +kernel
theorem w_applies : (headSpec (Jvm.Cond.code x code maxLocals ret :: tables_1) room_1).applies x e0.platform about1 = true :=
  (Spec.applies_iff w_frames).mpr ⟨w_running, w_runnable, w_alone, w_named, w_hears, w_ripe, w_room, w_tables⟩
theorem atStart : AtStart classFile x code maxLocals ret World_1 tables_1 room_1 Calls_1 rest_1 Pre_1 launch0 p0 e0 about1 theMethod args0 below0 :=
  ⟨lists_1, trivial, launch0.admits_env _ _ _, launch0.least_env, fairChoices_fair.cas, fairChoices_fair.clock, w_frames, w_args, w_heap, w_applies, trivial, trivial, w_case⟩
end start1
theorem witness_1 : WitnessClaimed_1 := ⟨start1.p0, start1.e0, start1.about1, start1.theMethod, start1.args0, start1.below0, start1.atStart⟩
end Jvm.Pilot.@@N@@
