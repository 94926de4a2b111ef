import JvmDerived
import JvmDerived.Pilot.@@N@@Statement
import JvmDerived.Pilot.@@N@@Code
set_option linter.unusedVariables false
set_option linter.unusedSimpArgs false
@@BLOCK:NumsL.lean.txt@@
@@BLOCK:Masks.lean.txt@@
namespace Jvm.RoadKit
open Sem ClassFile Op Lib Jvm.Stand Jvm.Free Jvm.LawKit
section New
variable {p : Program} {l : Launch} {e : Env} {R : Room} {s : State} {m : MethodId} {args : Array Value} {below : List Frame} {meth : Method} {c : Code} {T : State} {locs : List Loc} {cells slots : Nat}
theorem retI (X : Stand p l e R s m args below meth c T locs cells slots) (hx : p.tables.exec = Jvm.exec) {pc : Nat} {Ls : Array Slot} {z : Int32} {rest : List Value} (hret : meth.sig.returnType = some .int) (hd : decode c.code pc = .ok (.ireturn, 1)) {fs : List Frame}
    (hl : ∀ (f : JFrame) (acts : List Action), f.method = m → f.locked = none → f.entered = [] → (doReturn e (T.setTop f) acts (some (.int z))).1 = T.setFrames fs) : Steps p.tables e below (T.setTop (mkF m pc Ls (.int z :: rest))) (T.setFrames fs) := by
  have hm' : T.vm.method? m = some meth := X.method'
  have hn : narrow .int (.int z) = .int z := rfl
  show Steps p.tables e below (T.setTop { method := m, pc := pc, locals := Ls, stack := _ :: rest, locked := none }) _
  jvm_step X.here [X.here.top, hx, hd, hm', hret, hn]
  first | (intro acts; rw [hl _ acts rfl rfl rfl]) | rw [hl _ _ rfl rfl rfl]
  exact Steps.refl _
end New
end Jvm.RoadKit
namespace Jvm.Pilot.@@N@@
open Jvm Jvm.ClassFile Sem Op Lib Jvm.Free Jvm.Stand Jvm.LawKit Jvm.RoadKit Bundle Jvm.Pilot.@@N@@.Jvm.D
abbrev own_Go (p : Program) (e : Env) (below : List Frame) (s : State) (Q : Option Value → Heap → List Loc → Prop) (cs ss : Nat) (a : State) : Prop := ∃ (t : State) (o : Outcome), Steps p.tables e below a t ∧ t.status = .running ∧ Ended t below o ∧ ∃ (v : Option Value) (L : List Loc), o = .returned v ∧ Q v t.heap L ∧ FrameEnd s o t L cs ss
section Own
variable {p : Program} {l : Launch} {e : Env} {R : Room} {s : State} {m : MethodId} {args : Array Value} {below : List Frame} {meth : Method} {c : Code} {T : State} {locs : List Loc} {cells slots : Nat} {Q : Option Value → Heap → List Loc → Prop} {cs ss : Nat}
theorem own_go {a b : State} (h : ∀ t, Steps p.tables e below b t → Steps p.tables e below a t) (g : own_Go p e below s Q cs ss b) : own_Go p e below s Q cs ss a := by
  obtain ⟨t, o, h1, h2⟩ := g
  exact ⟨t, o, h t h1, h2⟩
theorem own_end (X : Stand p l e R s m args below meth c T locs cells slots) (hlk : meth.locks = false) {v : Option Value} (hv : meth.sig.returnType = none → v = none) {a : State}
    (hs : ∀ fs, (∀ (f : JFrame) (acts : List Action), f.method = m → f.locked = none → f.entered = [] → (doReturn e (T.setTop f) acts v).1 = T.setFrames fs) → Steps p.tables e below a (T.setFrames fs))
    {h : Heap} (eT : T.heap = h) (hq : Q v h locs) (h1 : cells ≤ cs) (h2 : slots ≤ ss) : own_Go p e below s Q cs ss a := by
  obtain ⟨fs, hr, hrun, hended, hW, hsame⟩ := X.leave hv hlk
  subst eT
  exact ⟨_, _, hs fs hr, hrun, hended, _, _, rfl, hq, ⟨_, rfl⟩, hW, hsame.mono h1 h2⟩
end Own
theorem own_hin {n : Nat} {cl : Cell} {j : Int32} (S : cl.slots.size = n) (h : ¬ j < 0 ∧ j.toNatClampNeg < n) : ¬ (j < 0 ∨ cl.slots.size ≤ j.toNatClampNeg) := by
  rw [S]; exact fun q => q.elim h.1 (fun u => absurd h.2 (Nat.not_lt.mpr u))
theorem own_has {cl : Cell} {xs : List Int32} {n : Nat} (H : Has cl (xs.map Value.int) (.int 0)) (S : cl.slots.size = n) : ∀ i, i < n → cl.slots[i]? = some (.int (xs.getD i 0)) := by
  intro i hi
  rw [H i (by rw [S]; exact hi)]
  simp only [List.getD_eq_getElem?_getD, List.getElem?_map]
  cases xs[i]? <;> rfl
theorem own_hasL {cl : Cell} {xs : List Int64} {n : Nat} (H : Has cl (xs.map Value.long) (.long 0)) (S : cl.slots.size = n) : ∀ i, i < n → cl.slots[i]? = some (.long (xs.getD i 0)) := by
  intro i hi
  rw [H i (by rw [S]; exact hi)]
  simp only [List.getD_eq_getElem?_getD, List.getElem?_map]
  cases xs[i]? <;> rfl
def own_isChar_48 (u1 : Int32)  : Int32 :=
  if u1 < (65536 : Int32) then
    (0 : Int32)
  else
    if (1114111 : Int32) < u1 then
      (0 : Int32)
    else
      (1 : Int32)
def own_isChar_0 (u1 : Int32)  : Int32 :=
  if u1 < (32 : Int32) then
    if u1 = (9 : Int32) then
      (1 : Int32)
    else
      if u1 = (10 : Int32) then
        (1 : Int32)
      else
        if u1 = (13 : Int32) then
          (1 : Int32)
        else
          (0 : Int32)
  else
    if (55295 : Int32) < u1 then
      if u1 < (57344 : Int32) then
        own_isChar_48 u1 
      else
        if (65533 : Int32) < u1 then
          own_isChar_48 u1 
        else
          (1 : Int32)
    else
      (1 : Int32)
theorem d1_0 : decode prog_134_method_5_code 0 = .ok (.iload_n 0, 1) := by decide +kernel
theorem d1_1 : decode prog_134_method_5_code 1 = .ok (.bipush 32, 2) := by decide +kernel
theorem d1_3 : decode prog_134_method_5_code 3 = .ok (.if_icmp .ge 27, 3) := by decide +kernel
theorem d1_6 : decode prog_134_method_5_code 6 = .ok (.iload_n 0, 1) := by decide +kernel
theorem d1_7 : decode prog_134_method_5_code 7 = .ok (.bipush 9, 2) := by decide +kernel
theorem d1_9 : decode prog_134_method_5_code 9 = .ok (.if_icmp .eq 15, 3) := by decide +kernel
theorem d1_12 : decode prog_134_method_5_code 12 = .ok (.iload_n 0, 1) := by decide +kernel
theorem d1_13 : decode prog_134_method_5_code 13 = .ok (.bipush 10, 2) := by decide +kernel
theorem d1_15 : decode prog_134_method_5_code 15 = .ok (.if_icmp .eq 9, 3) := by decide +kernel
theorem d1_18 : decode prog_134_method_5_code 18 = .ok (.iload_n 0, 1) := by decide +kernel
theorem d1_19 : decode prog_134_method_5_code 19 = .ok (.bipush 13, 2) := by decide +kernel
theorem d1_21 : decode prog_134_method_5_code 21 = .ok (.if_icmp .ne 7, 3) := by decide +kernel
theorem d1_24 : decode prog_134_method_5_code 24 = .ok (.iconst 1, 1) := by decide +kernel
theorem d1_25 : decode prog_134_method_5_code 25 = .ok (.goto 4, 3) := by decide +kernel
theorem d1_28 : decode prog_134_method_5_code 28 = .ok (.iconst 0, 1) := by decide +kernel
theorem d1_29 : decode prog_134_method_5_code 29 = .ok (.ireturn, 1) := by decide +kernel
theorem d1_30 : decode prog_134_method_5_code 30 = .ok (.iload_n 0, 1) := by decide +kernel
theorem d1_31 : decode prog_134_method_5_code 31 = .ok (.ldc 16, 2) := by decide +kernel
theorem d1_33 : decode prog_134_method_5_code 33 = .ok (.if_icmp .le 27, 3) := by decide +kernel
theorem d1_36 : decode prog_134_method_5_code 36 = .ok (.iload_n 0, 1) := by decide +kernel
theorem d1_37 : decode prog_134_method_5_code 37 = .ok (.ldc 17, 2) := by decide +kernel
theorem d1_39 : decode prog_134_method_5_code 39 = .ok (.if_icmp .lt 9, 3) := by decide +kernel
theorem d1_42 : decode prog_134_method_5_code 42 = .ok (.iload_n 0, 1) := by decide +kernel
theorem d1_43 : decode prog_134_method_5_code 43 = .ok (.ldc 18, 2) := by decide +kernel
theorem d1_45 : decode prog_134_method_5_code 45 = .ok (.if_icmp .le 15, 3) := by decide +kernel
theorem d1_48 : decode prog_134_method_5_code 48 = .ok (.iload_n 0, 1) := by decide +kernel
theorem d1_49 : decode prog_134_method_5_code 49 = .ok (.ldc 19, 2) := by decide +kernel
theorem d1_51 : decode prog_134_method_5_code 51 = .ok (.if_icmp .lt 13, 3) := by decide +kernel
theorem d1_54 : decode prog_134_method_5_code 54 = .ok (.iload_n 0, 1) := by decide +kernel
theorem d1_55 : decode prog_134_method_5_code 55 = .ok (.ldc 20, 2) := by decide +kernel
theorem d1_57 : decode prog_134_method_5_code 57 = .ok (.if_icmp .gt 7, 3) := by decide +kernel
theorem d1_60 : decode prog_134_method_5_code 60 = .ok (.iconst 1, 1) := by decide +kernel
theorem d1_61 : decode prog_134_method_5_code 61 = .ok (.goto 4, 3) := by decide +kernel
theorem d1_64 : decode prog_134_method_5_code 64 = .ok (.iconst 0, 1) := by decide +kernel
theorem d1_65 : decode prog_134_method_5_code 65 = .ok (.ireturn, 1) := by decide +kernel
theorem pn_1 : plainName "com/example/kdata/kdata/XmlChars" = true := by first | (simp [plainName, overriddenIn]; done) | decide +kernel
theorem ef_1 (m : MethodId) (x0 : Int32) : entryFrame m #[(.int x0)] 1 = mkF m 0 #[.val (.int x0)] [] := by first | (simp [entryFrame, mkF, argsToLocals, Value.category]; done) | rfl
def Q1 (u1 : Int32) (h0 : Heap) (n0 : Nat) (v : Option Value) (h : Heap) (L : List Loc) : Prop := v = some (.int (own_isChar_0 u1)) ∧ Fr n0 L ∧ h = h0
set_option maxRecDepth 65536 in
set_option maxHeartbeats 40000000 in
theorem rm1 (l : Launch) (Z : State) (a0 : Array Value) (hw : ∀ d ∈ tables_1, d.before a0 Z = true) (ws : List Jvm.Cond) (u1 : Int32) (h0 : Heap) (n0 : Nat) (Z0 : n0 ≤ h0.size)   :
    MetFree l (⟨"com/example/kdata/kdata/XmlChars", "isChar", "(I)Z"⟩ : MethodName) (head1 (Jvm.Cond.code (⟨"com/example/kdata/kdata/XmlChars", "isChar", "(I)Z"⟩ : MethodName) prog_134_method_5_code 1 (some .boolean) :: ws) ({ frames := 0, cells := 0, slots := 0, locals := 0 } : Room)) (fun a U => a = #[(.int u1)] ∧ Z.Warmed39 U.vm ∧ U.heap = h0) (fun _ _ _ _ _ => True) (fun _ U o U' => ∃ v L, o = .returned v ∧ Q1 u1 h0 n0 v U'.heap L ∧ FrameEnd U o U' L ({ frames := 0, cells := 0, slots := 0, locals := 0 } : Room).cells ({ frames := 0, cells := 0, slots := 0, locals := 0 } : Room).slots) := by
  refine MetFree.of_bodySF (plainFor_of_name pn_1) hisR ?_
  intro p e s m args below meth c s₁ Bd hml0 hP hK
  obtain ⟨rfl, hZ, hh⟩ := hP
  have hx := Bd.exec
  have hby := Bd.bytes
  have hml : c.maxLocals = 1 := hml0
  have hown : s.vm.findClass "com/example/kdata/kdata/XmlChars" = some m.cls := findClass_of_methodNamed Bd.named
  have hnm := (name_of_methodNamed Bd.named Bd.method).1
  have X0 : Stand p l e ({ frames := 0, cells := 0, slots := 0, locals := 0 } : Room) s m #[(.int u1)] below meth c s₁ [] 0 0 := Stand.of_body Bd
  have e0 : s₁.heap = h0 := by rw [← hh, Bd.state]; rfl
  have N0 := Fr.nil n0
  show own_Go p e below s (Q1 u1 h0 n0) ({ frames := 0, cells := 0, slots := 0, locals := 0 } : Room).cells ({ frames := 0, cells := 0, slots := 0, locals := 0 } : Room).slots (s₁.setTop (entryFrame m #[(.int u1)] 1))
  refine own_go (b := s₁.setTop (mkF m 0 #[.val (.int u1)] [])) (fun t k => castTop (ef_1 m u1) k) ?_
  have J48 : ∀ (T : State) (lc : List Loc), Stand p l e ({ frames := 0, cells := 0, slots := 0, locals := 0 } : Room) s m #[(.int u1)] below meth c T lc 0 0 → Fr n0 lc → T.heap = h0 → own_isChar_0 u1 = own_isChar_48 u1  → own_Go p e below s (Q1 u1 h0 n0) ({ frames := 0, cells := 0, slots := 0, locals := 0 } : Room).cells ({ frames := 0, cells := 0, slots := 0, locals := 0 } : Room).slots (T.setTop (mkF m 48 #[.val (.int u1)] [])) := by
    intro T lc X N eT    hv
    refine own_go (b := T.setTop (mkF m 51 #[.val (.int u1)] [(.int (65536 : Int32)), (.int u1)])) (fun t k => ?_) ?_
    · show Steps p.tables e below (T.setTop (mkF m 48 #[.val (.int u1)] [])) _
      refine XS.iloadN X.here hx rfl (hb hby d1_48) rfl ?_
      show Steps p.tables e below (T.setTop (mkF m 49 #[.val (.int u1)] [(.int u1)])) _
      refine X.ldcI hx hown (mvT hZ (hw _ (List.mem_of_getElem? (i := 22) rfl))) rfl (hb hby d1_49) ?_
      show Steps p.tables e below (T.setTop (mkF m 51 #[.val (.int u1)] [(.int (65536 : Int32)), (.int u1)])) _
      exact k
    by_cases hc51 : u1 < (65536 : Int32)
    · refine own_end X Bd.notSynchronized (v := some (.int (0 : Int32))) (fun h => by rw [Bd.returns] at h; cases h) (fun fs hr => ?_) eT ?_ (by decide) (by decide)
      · show Steps p.tables e below (T.setTop (mkF m 51 #[.val (.int u1)] [(.int (65536 : Int32)), (.int u1)])) _
        refine XS.icmpYes X.here hx rfl (pc0 := 51) (pc' := 64) rfl (hb hby d1_51) rfl (tlt hc51).1 (by decide) (by decide) ?_
        show Steps p.tables e below (T.setTop (mkF m 64 #[.val (.int u1)] [])) _
        refine XS.iconst X.here hx rfl (hb hby d1_64) ?_
        show Steps p.tables e below (T.setTop (mkF m 65 #[.val (.int u1)] [(.int (0 : Int32))])) _
        exact retN X hx (t := .boolean) Bd.returns (by simp) (hb hby d1_65) hr
      · exact ⟨by rw [hv, own_isChar_48, if_pos hc51], N, rfl⟩
    · refine own_go (b := T.setTop (mkF m 57 #[.val (.int u1)] [(.int (1114111 : Int32)), (.int u1)])) (fun t k => ?_) ?_
      · show Steps p.tables e below (T.setTop (mkF m 51 #[.val (.int u1)] [(.int (65536 : Int32)), (.int u1)])) _
        refine XS.icmpNo X.here hx rfl (hb hby d1_51) rfl (flt hc51).1 ?_
        show Steps p.tables e below (T.setTop (mkF m 54 #[.val (.int u1)] [])) _
        refine XS.iloadN X.here hx rfl (hb hby d1_54) rfl ?_
        show Steps p.tables e below (T.setTop (mkF m 55 #[.val (.int u1)] [(.int u1)])) _
        refine X.ldcI hx hown (mvT hZ (hw _ (List.mem_of_getElem? (i := 23) rfl))) rfl (hb hby d1_55) ?_
        show Steps p.tables e below (T.setTop (mkF m 57 #[.val (.int u1)] [(.int (1114111 : Int32)), (.int u1)])) _
        exact k
      by_cases hc57 : (1114111 : Int32) < u1
      · refine own_end X Bd.notSynchronized (v := some (.int (0 : Int32))) (fun h => by rw [Bd.returns] at h; cases h) (fun fs hr => ?_) eT ?_ (by decide) (by decide)
        · show Steps p.tables e below (T.setTop (mkF m 57 #[.val (.int u1)] [(.int (1114111 : Int32)), (.int u1)])) _
          refine XS.icmpYes X.here hx rfl (pc0 := 57) (pc' := 64) rfl (hb hby d1_57) rfl (tlt hc57).2.2.1 (by decide) (by decide) ?_
          show Steps p.tables e below (T.setTop (mkF m 64 #[.val (.int u1)] [])) _
          refine XS.iconst X.here hx rfl (hb hby d1_64) ?_
          show Steps p.tables e below (T.setTop (mkF m 65 #[.val (.int u1)] [(.int (0 : Int32))])) _
          exact retN X hx (t := .boolean) Bd.returns (by simp) (hb hby d1_65) hr
        · exact ⟨by rw [hv, own_isChar_48, if_neg hc51, if_pos hc57], N, rfl⟩
      · refine own_end X Bd.notSynchronized (v := some (.int (1 : Int32))) (fun h => by rw [Bd.returns] at h; cases h) (fun fs hr => ?_) eT ?_ (by decide) (by decide)
        · show Steps p.tables e below (T.setTop (mkF m 57 #[.val (.int u1)] [(.int (1114111 : Int32)), (.int u1)])) _
          refine XS.icmpNo X.here hx rfl (hb hby d1_57) rfl (flt hc57).2.2.1 ?_
          show Steps p.tables e below (T.setTop (mkF m 60 #[.val (.int u1)] [])) _
          refine XS.iconst X.here hx rfl (hb hby d1_60) ?_
          show Steps p.tables e below (T.setTop (mkF m 61 #[.val (.int u1)] [(.int (1 : Int32))])) _
          refine XS.goto X.here hx rfl (pc0 := 61) (pc' := 65) rfl (hb hby d1_61) (by decide) (by decide) ?_
          show Steps p.tables e below (T.setTop (mkF m 65 #[.val (.int u1)] [(.int (1 : Int32))])) _
          exact retN X hx (t := .boolean) Bd.returns (by simp) (hb hby d1_65) hr
        · exact ⟨by rw [hv, own_isChar_48, if_neg hc51, if_neg hc57], N, rfl⟩
  refine own_go (b := s₁.setTop (mkF m 3 #[.val (.int u1)] [(.int (32 : Int32)), (.int u1)])) (fun t k => ?_) ?_
  · show Steps p.tables e below (s₁.setTop (mkF m 0 #[.val (.int u1)] [])) _
    refine XS.iloadN X0.here hx rfl (hb hby d1_0) rfl ?_
    show Steps p.tables e below (s₁.setTop (mkF m 1 #[.val (.int u1)] [(.int u1)])) _
    refine XS.bipush X0.here hx rfl (hb hby d1_1) ?_
    show Steps p.tables e below (s₁.setTop (mkF m 3 #[.val (.int u1)] [(.int (32 : Int32)), (.int u1)])) _
    exact k
  by_cases hc3 : u1 < (32 : Int32)
  · refine own_go (b := s₁.setTop (mkF m 9 #[.val (.int u1)] [(.int (9 : Int32)), (.int u1)])) (fun t k => ?_) ?_
    · show Steps p.tables e below (s₁.setTop (mkF m 3 #[.val (.int u1)] [(.int (32 : Int32)), (.int u1)])) _
      refine XS.icmpNo X0.here hx rfl (hb hby d1_3) rfl (tlt hc3).2.1 ?_
      show Steps p.tables e below (s₁.setTop (mkF m 6 #[.val (.int u1)] [])) _
      refine XS.iloadN X0.here hx rfl (hb hby d1_6) rfl ?_
      show Steps p.tables e below (s₁.setTop (mkF m 7 #[.val (.int u1)] [(.int u1)])) _
      refine XS.bipush X0.here hx rfl (hb hby d1_7) ?_
      show Steps p.tables e below (s₁.setTop (mkF m 9 #[.val (.int u1)] [(.int (9 : Int32)), (.int u1)])) _
      exact k
    by_cases hc9 : u1 = (9 : Int32)
    · refine own_end X0 Bd.notSynchronized (v := some (.int (1 : Int32))) (fun h => by rw [Bd.returns] at h; cases h) (fun fs hr => ?_) e0 ?_ (by decide) (by decide)
      · show Steps p.tables e below (s₁.setTop (mkF m 9 #[.val (.int u1)] [(.int (9 : Int32)), (.int u1)])) _
        refine XS.icmpYes X0.here hx rfl (pc0 := 9) (pc' := 24) rfl (hb hby d1_9) rfl (teq hc9).1 (by decide) (by decide) ?_
        show Steps p.tables e below (s₁.setTop (mkF m 24 #[.val (.int u1)] [])) _
        refine XS.iconst X0.here hx rfl (hb hby d1_24) ?_
        show Steps p.tables e below (s₁.setTop (mkF m 25 #[.val (.int u1)] [(.int (1 : Int32))])) _
        refine XS.goto X0.here hx rfl (pc0 := 25) (pc' := 29) rfl (hb hby d1_25) (by decide) (by decide) ?_
        show Steps p.tables e below (s₁.setTop (mkF m 29 #[.val (.int u1)] [(.int (1 : Int32))])) _
        exact retN X0 hx (t := .boolean) Bd.returns (by simp) (hb hby d1_29) hr
      · exact ⟨by rw [own_isChar_0, if_pos hc3, if_pos hc9], N0, rfl⟩
    · refine own_go (b := s₁.setTop (mkF m 15 #[.val (.int u1)] [(.int (10 : Int32)), (.int u1)])) (fun t k => ?_) ?_
      · show Steps p.tables e below (s₁.setTop (mkF m 9 #[.val (.int u1)] [(.int (9 : Int32)), (.int u1)])) _
        refine XS.icmpNo X0.here hx rfl (hb hby d1_9) rfl (feq hc9).1 ?_
        show Steps p.tables e below (s₁.setTop (mkF m 12 #[.val (.int u1)] [])) _
        refine XS.iloadN X0.here hx rfl (hb hby d1_12) rfl ?_
        show Steps p.tables e below (s₁.setTop (mkF m 13 #[.val (.int u1)] [(.int u1)])) _
        refine XS.bipush X0.here hx rfl (hb hby d1_13) ?_
        show Steps p.tables e below (s₁.setTop (mkF m 15 #[.val (.int u1)] [(.int (10 : Int32)), (.int u1)])) _
        exact k
      by_cases hc15 : u1 = (10 : Int32)
      · refine own_end X0 Bd.notSynchronized (v := some (.int (1 : Int32))) (fun h => by rw [Bd.returns] at h; cases h) (fun fs hr => ?_) e0 ?_ (by decide) (by decide)
        · show Steps p.tables e below (s₁.setTop (mkF m 15 #[.val (.int u1)] [(.int (10 : Int32)), (.int u1)])) _
          refine XS.icmpYes X0.here hx rfl (pc0 := 15) (pc' := 24) rfl (hb hby d1_15) rfl (teq hc15).1 (by decide) (by decide) ?_
          show Steps p.tables e below (s₁.setTop (mkF m 24 #[.val (.int u1)] [])) _
          refine XS.iconst X0.here hx rfl (hb hby d1_24) ?_
          show Steps p.tables e below (s₁.setTop (mkF m 25 #[.val (.int u1)] [(.int (1 : Int32))])) _
          refine XS.goto X0.here hx rfl (pc0 := 25) (pc' := 29) rfl (hb hby d1_25) (by decide) (by decide) ?_
          show Steps p.tables e below (s₁.setTop (mkF m 29 #[.val (.int u1)] [(.int (1 : Int32))])) _
          exact retN X0 hx (t := .boolean) Bd.returns (by simp) (hb hby d1_29) hr
        · exact ⟨by rw [own_isChar_0, if_pos hc3, if_neg hc9, if_pos hc15], N0, rfl⟩
      · refine own_go (b := s₁.setTop (mkF m 21 #[.val (.int u1)] [(.int (13 : Int32)), (.int u1)])) (fun t k => ?_) ?_
        · show Steps p.tables e below (s₁.setTop (mkF m 15 #[.val (.int u1)] [(.int (10 : Int32)), (.int u1)])) _
          refine XS.icmpNo X0.here hx rfl (hb hby d1_15) rfl (feq hc15).1 ?_
          show Steps p.tables e below (s₁.setTop (mkF m 18 #[.val (.int u1)] [])) _
          refine XS.iloadN X0.here hx rfl (hb hby d1_18) rfl ?_
          show Steps p.tables e below (s₁.setTop (mkF m 19 #[.val (.int u1)] [(.int u1)])) _
          refine XS.bipush X0.here hx rfl (hb hby d1_19) ?_
          show Steps p.tables e below (s₁.setTop (mkF m 21 #[.val (.int u1)] [(.int (13 : Int32)), (.int u1)])) _
          exact k
        by_cases hc21 : u1 = (13 : Int32)
        · refine own_end X0 Bd.notSynchronized (v := some (.int (1 : Int32))) (fun h => by rw [Bd.returns] at h; cases h) (fun fs hr => ?_) e0 ?_ (by decide) (by decide)
          · show Steps p.tables e below (s₁.setTop (mkF m 21 #[.val (.int u1)] [(.int (13 : Int32)), (.int u1)])) _
            refine XS.icmpNo X0.here hx rfl (hb hby d1_21) rfl (teq hc21).2 ?_
            show Steps p.tables e below (s₁.setTop (mkF m 24 #[.val (.int u1)] [])) _
            refine XS.iconst X0.here hx rfl (hb hby d1_24) ?_
            show Steps p.tables e below (s₁.setTop (mkF m 25 #[.val (.int u1)] [(.int (1 : Int32))])) _
            refine XS.goto X0.here hx rfl (pc0 := 25) (pc' := 29) rfl (hb hby d1_25) (by decide) (by decide) ?_
            show Steps p.tables e below (s₁.setTop (mkF m 29 #[.val (.int u1)] [(.int (1 : Int32))])) _
            exact retN X0 hx (t := .boolean) Bd.returns (by simp) (hb hby d1_29) hr
          · exact ⟨by rw [own_isChar_0, if_pos hc3, if_neg hc9, if_neg hc15, if_pos hc21], N0, rfl⟩
        · refine own_end X0 Bd.notSynchronized (v := some (.int (0 : Int32))) (fun h => by rw [Bd.returns] at h; cases h) (fun fs hr => ?_) e0 ?_ (by decide) (by decide)
          · show Steps p.tables e below (s₁.setTop (mkF m 21 #[.val (.int u1)] [(.int (13 : Int32)), (.int u1)])) _
            refine XS.icmpYes X0.here hx rfl (pc0 := 21) (pc' := 28) rfl (hb hby d1_21) rfl (feq hc21).2 (by decide) (by decide) ?_
            show Steps p.tables e below (s₁.setTop (mkF m 28 #[.val (.int u1)] [])) _
            refine XS.iconst X0.here hx rfl (hb hby d1_28) ?_
            show Steps p.tables e below (s₁.setTop (mkF m 29 #[.val (.int u1)] [(.int (0 : Int32))])) _
            exact retN X0 hx (t := .boolean) Bd.returns (by simp) (hb hby d1_29) hr
          · exact ⟨by rw [own_isChar_0, if_pos hc3, if_neg hc9, if_neg hc15, if_neg hc21], N0, rfl⟩
  · refine own_go (b := s₁.setTop (mkF m 33 #[.val (.int u1)] [(.int (55295 : Int32)), (.int u1)])) (fun t k => ?_) ?_
    · show Steps p.tables e below (s₁.setTop (mkF m 3 #[.val (.int u1)] [(.int (32 : Int32)), (.int u1)])) _
      refine XS.icmpYes X0.here hx rfl (pc0 := 3) (pc' := 30) rfl (hb hby d1_3) rfl (flt hc3).2.1 (by decide) (by decide) ?_
      show Steps p.tables e below (s₁.setTop (mkF m 30 #[.val (.int u1)] [])) _
      refine XS.iloadN X0.here hx rfl (hb hby d1_30) rfl ?_
      show Steps p.tables e below (s₁.setTop (mkF m 31 #[.val (.int u1)] [(.int u1)])) _
      refine X0.ldcI hx hown (mvT hZ (hw _ (List.mem_of_getElem? (i := 19) rfl))) rfl (hb hby d1_31) ?_
      show Steps p.tables e below (s₁.setTop (mkF m 33 #[.val (.int u1)] [(.int (55295 : Int32)), (.int u1)])) _
      exact k
    by_cases hc33 : (55295 : Int32) < u1
    · refine own_go (b := s₁.setTop (mkF m 39 #[.val (.int u1)] [(.int (57344 : Int32)), (.int u1)])) (fun t k => ?_) ?_
      · show Steps p.tables e below (s₁.setTop (mkF m 33 #[.val (.int u1)] [(.int (55295 : Int32)), (.int u1)])) _
        refine XS.icmpNo X0.here hx rfl (hb hby d1_33) rfl (tlt hc33).2.2.2 ?_
        show Steps p.tables e below (s₁.setTop (mkF m 36 #[.val (.int u1)] [])) _
        refine XS.iloadN X0.here hx rfl (hb hby d1_36) rfl ?_
        show Steps p.tables e below (s₁.setTop (mkF m 37 #[.val (.int u1)] [(.int u1)])) _
        refine X0.ldcI hx hown (mvT hZ (hw _ (List.mem_of_getElem? (i := 20) rfl))) rfl (hb hby d1_37) ?_
        show Steps p.tables e below (s₁.setTop (mkF m 39 #[.val (.int u1)] [(.int (57344 : Int32)), (.int u1)])) _
        exact k
      by_cases hc39 : u1 < (57344 : Int32)
      · refine own_go (b := s₁.setTop (mkF m 48 #[.val (.int u1)] [])) (fun t k => ?_) ?_
        · show Steps p.tables e below (s₁.setTop (mkF m 39 #[.val (.int u1)] [(.int (57344 : Int32)), (.int u1)])) _
          refine XS.icmpYes X0.here hx rfl (pc0 := 39) (pc' := 48) rfl (hb hby d1_39) rfl (tlt hc39).1 (by decide) (by decide) ?_
          show Steps p.tables e below (s₁.setTop (mkF m 48 #[.val (.int u1)] [])) _
          exact k
        exact J48 s₁ _ X0 N0 e0    (by rw [own_isChar_0, if_neg hc3, if_pos hc33, if_pos hc39])
      · refine own_go (b := s₁.setTop (mkF m 45 #[.val (.int u1)] [(.int (65533 : Int32)), (.int u1)])) (fun t k => ?_) ?_
        · show Steps p.tables e below (s₁.setTop (mkF m 39 #[.val (.int u1)] [(.int (57344 : Int32)), (.int u1)])) _
          refine XS.icmpNo X0.here hx rfl (hb hby d1_39) rfl (flt hc39).1 ?_
          show Steps p.tables e below (s₁.setTop (mkF m 42 #[.val (.int u1)] [])) _
          refine XS.iloadN X0.here hx rfl (hb hby d1_42) rfl ?_
          show Steps p.tables e below (s₁.setTop (mkF m 43 #[.val (.int u1)] [(.int u1)])) _
          refine X0.ldcI hx hown (mvT hZ (hw _ (List.mem_of_getElem? (i := 21) rfl))) rfl (hb hby d1_43) ?_
          show Steps p.tables e below (s₁.setTop (mkF m 45 #[.val (.int u1)] [(.int (65533 : Int32)), (.int u1)])) _
          exact k
        by_cases hc45 : (65533 : Int32) < u1
        · refine own_go (b := s₁.setTop (mkF m 48 #[.val (.int u1)] [])) (fun t k => ?_) ?_
          · show Steps p.tables e below (s₁.setTop (mkF m 45 #[.val (.int u1)] [(.int (65533 : Int32)), (.int u1)])) _
            refine XS.icmpNo X0.here hx rfl (hb hby d1_45) rfl (tlt hc45).2.2.2 ?_
            show Steps p.tables e below (s₁.setTop (mkF m 48 #[.val (.int u1)] [])) _
            exact k
          exact J48 s₁ _ X0 N0 e0    (by rw [own_isChar_0, if_neg hc3, if_pos hc33, if_neg hc39, if_pos hc45])
        · refine own_end X0 Bd.notSynchronized (v := some (.int (1 : Int32))) (fun h => by rw [Bd.returns] at h; cases h) (fun fs hr => ?_) e0 ?_ (by decide) (by decide)
          · show Steps p.tables e below (s₁.setTop (mkF m 45 #[.val (.int u1)] [(.int (65533 : Int32)), (.int u1)])) _
            refine XS.icmpYes X0.here hx rfl (pc0 := 45) (pc' := 60) rfl (hb hby d1_45) rfl (flt hc45).2.2.2 (by decide) (by decide) ?_
            show Steps p.tables e below (s₁.setTop (mkF m 60 #[.val (.int u1)] [])) _
            refine XS.iconst X0.here hx rfl (hb hby d1_60) ?_
            show Steps p.tables e below (s₁.setTop (mkF m 61 #[.val (.int u1)] [(.int (1 : Int32))])) _
            refine XS.goto X0.here hx rfl (pc0 := 61) (pc' := 65) rfl (hb hby d1_61) (by decide) (by decide) ?_
            show Steps p.tables e below (s₁.setTop (mkF m 65 #[.val (.int u1)] [(.int (1 : Int32))])) _
            exact retN X0 hx (t := .boolean) Bd.returns (by simp) (hb hby d1_65) hr
          · exact ⟨by rw [own_isChar_0, if_neg hc3, if_pos hc33, if_neg hc39, if_neg hc45], N0, rfl⟩
    · refine own_end X0 Bd.notSynchronized (v := some (.int (1 : Int32))) (fun h => by rw [Bd.returns] at h; cases h) (fun fs hr => ?_) e0 ?_ (by decide) (by decide)
      · show Steps p.tables e below (s₁.setTop (mkF m 33 #[.val (.int u1)] [(.int (55295 : Int32)), (.int u1)])) _
        refine XS.icmpYes X0.here hx rfl (pc0 := 33) (pc' := 60) rfl (hb hby d1_33) rfl (flt hc33).2.2.2 (by decide) (by decide) ?_
        show Steps p.tables e below (s₁.setTop (mkF m 60 #[.val (.int u1)] [])) _
        refine XS.iconst X0.here hx rfl (hb hby d1_60) ?_
        show Steps p.tables e below (s₁.setTop (mkF m 61 #[.val (.int u1)] [(.int (1 : Int32))])) _
        refine XS.goto X0.here hx rfl (pc0 := 61) (pc' := 65) rfl (hb hby d1_61) (by decide) (by decide) ?_
        show Steps p.tables e below (s₁.setTop (mkF m 65 #[.val (.int u1)] [(.int (1 : Int32))])) _
        exact retN X0 hx (t := .boolean) Bd.returns (by simp) (hb hby d1_65) hr
      · exact ⟨by rw [own_isChar_0, if_neg hc3, if_neg hc33], N0, rfl⟩
def own_expd_52 (u1 : Int32)  : Int32 :=
  if u1 < (65536 : Int32) then
    (0 : Int32)
  else
    if (1114111 : Int32) < u1 then
      (0 : Int32)
    else
      (1 : Int32)
def own_expd_38 (u1 : Int32)  : Int32 :=
  if u1 < (57344 : Int32) then
    own_expd_52 u1 
  else
    if (65533 : Int32) < u1 then
      own_expd_52 u1 
    else
      (1 : Int32)
def own_expd_0 (u1 : Int32)  : Int32 :=
  if u1 = (9 : Int32) then
    (1 : Int32)
  else
    if u1 = (10 : Int32) then
      (1 : Int32)
    else
      if u1 = (13 : Int32) then
        (1 : Int32)
      else
        if u1 < (32 : Int32) then
          own_expd_38 u1 
        else
          if (55295 : Int32) < u1 then
            own_expd_38 u1 
          else
            (1 : Int32)
theorem d2_0 : decode method_2_code 0 = .ok (.iload_n 0, 1) := by decide +kernel
theorem d2_1 : decode method_2_code 1 = .ok (.bipush 9, 2) := by decide +kernel
theorem d2_3 : decode method_2_code 3 = .ok (.if_icmp .ne 5, 3) := by decide +kernel
theorem d2_6 : decode method_2_code 6 = .ok (.iconst 1, 1) := by decide +kernel
theorem d2_7 : decode method_2_code 7 = .ok (.ireturn, 1) := by decide +kernel
theorem d2_8 : decode method_2_code 8 = .ok (.iload_n 0, 1) := by decide +kernel
theorem d2_9 : decode method_2_code 9 = .ok (.bipush 10, 2) := by decide +kernel
theorem d2_11 : decode method_2_code 11 = .ok (.if_icmp .ne 5, 3) := by decide +kernel
theorem d2_14 : decode method_2_code 14 = .ok (.iconst 1, 1) := by decide +kernel
theorem d2_15 : decode method_2_code 15 = .ok (.ireturn, 1) := by decide +kernel
theorem d2_16 : decode method_2_code 16 = .ok (.iload_n 0, 1) := by decide +kernel
theorem d2_17 : decode method_2_code 17 = .ok (.bipush 13, 2) := by decide +kernel
theorem d2_19 : decode method_2_code 19 = .ok (.if_icmp .ne 5, 3) := by decide +kernel
theorem d2_22 : decode method_2_code 22 = .ok (.iconst 1, 1) := by decide +kernel
theorem d2_23 : decode method_2_code 23 = .ok (.ireturn, 1) := by decide +kernel
theorem d2_24 : decode method_2_code 24 = .ok (.iload_n 0, 1) := by decide +kernel
theorem d2_25 : decode method_2_code 25 = .ok (.bipush 32, 2) := by decide +kernel
theorem d2_27 : decode method_2_code 27 = .ok (.if_icmp .lt 11, 3) := by decide +kernel
theorem d2_30 : decode method_2_code 30 = .ok (.iload_n 0, 1) := by decide +kernel
theorem d2_31 : decode method_2_code 31 = .ok (.ldc 7, 2) := by decide +kernel
theorem d2_33 : decode method_2_code 33 = .ok (.if_icmp .gt 5, 3) := by decide +kernel
theorem d2_36 : decode method_2_code 36 = .ok (.iconst 1, 1) := by decide +kernel
theorem d2_37 : decode method_2_code 37 = .ok (.ireturn, 1) := by decide +kernel
theorem d2_38 : decode method_2_code 38 = .ok (.iload_n 0, 1) := by decide +kernel
theorem d2_39 : decode method_2_code 39 = .ok (.ldc 8, 2) := by decide +kernel
theorem d2_41 : decode method_2_code 41 = .ok (.if_icmp .lt 11, 3) := by decide +kernel
theorem d2_44 : decode method_2_code 44 = .ok (.iload_n 0, 1) := by decide +kernel
theorem d2_45 : decode method_2_code 45 = .ok (.ldc 9, 2) := by decide +kernel
theorem d2_47 : decode method_2_code 47 = .ok (.if_icmp .gt 5, 3) := by decide +kernel
theorem d2_50 : decode method_2_code 50 = .ok (.iconst 1, 1) := by decide +kernel
theorem d2_51 : decode method_2_code 51 = .ok (.ireturn, 1) := by decide +kernel
theorem d2_52 : decode method_2_code 52 = .ok (.iload_n 0, 1) := by decide +kernel
theorem d2_53 : decode method_2_code 53 = .ok (.ldc 10, 2) := by decide +kernel
theorem d2_55 : decode method_2_code 55 = .ok (.if_icmp .lt 11, 3) := by decide +kernel
theorem d2_58 : decode method_2_code 58 = .ok (.iload_n 0, 1) := by decide +kernel
theorem d2_59 : decode method_2_code 59 = .ok (.ldc 11, 2) := by decide +kernel
theorem d2_61 : decode method_2_code 61 = .ok (.if_icmp .gt 5, 3) := by decide +kernel
theorem d2_64 : decode method_2_code 64 = .ok (.iconst 1, 1) := by decide +kernel
theorem d2_65 : decode method_2_code 65 = .ok (.ireturn, 1) := by decide +kernel
theorem d2_66 : decode method_2_code 66 = .ok (.iconst 0, 1) := by decide +kernel
theorem d2_67 : decode method_2_code 67 = .ok (.ireturn, 1) := by decide +kernel
theorem pn_2 : plainName "com/example/kdata/kdata/XmlCharsIsCharPinLaw" = true := by first | (simp [plainName, overriddenIn]; done) | decide +kernel
theorem ef_2 (m : MethodId) (x0 : Int32) : entryFrame m #[(.int x0)] 1 = mkF m 0 #[.val (.int x0)] [] := by first | (simp [entryFrame, mkF, argsToLocals, Value.category]; done) | rfl
def Q2 (u1 : Int32) (h0 : Heap) (n0 : Nat) (v : Option Value) (h : Heap) (L : List Loc) : Prop := v = some (.int (own_expd_0 u1)) ∧ Fr n0 L ∧ h = h0
set_option maxRecDepth 65536 in
set_option maxHeartbeats 40000000 in
theorem rm2 (l : Launch) (Z : State) (a0 : Array Value) (hw : ∀ d ∈ tables_1, d.before a0 Z = true) (ws : List Jvm.Cond) (u1 : Int32) (h0 : Heap) (n0 : Nat) (Z0 : n0 ≤ h0.size)   :
    MetFree l (⟨"com/example/kdata/kdata/XmlCharsIsCharPinLaw", "expected", "(I)Z"⟩ : MethodName) (head1 (Jvm.Cond.code (⟨"com/example/kdata/kdata/XmlCharsIsCharPinLaw", "expected", "(I)Z"⟩ : MethodName) method_2_code 1 (some .boolean) :: ws) ({ frames := 0, cells := 0, slots := 0, locals := 0 } : Room)) (fun a U => a = #[(.int u1)] ∧ Z.Warmed39 U.vm ∧ U.heap = h0) (fun _ _ _ _ _ => True) (fun _ U o U' => ∃ v L, o = .returned v ∧ Q2 u1 h0 n0 v U'.heap L ∧ FrameEnd U o U' L ({ frames := 0, cells := 0, slots := 0, locals := 0 } : Room).cells ({ frames := 0, cells := 0, slots := 0, locals := 0 } : Room).slots) := by
  refine MetFree.of_bodySF (plainFor_of_name pn_2) hisR ?_
  intro p e s m args below meth c s₁ Bd hml0 hP hK
  obtain ⟨rfl, hZ, hh⟩ := hP
  have hx := Bd.exec
  have hby := Bd.bytes
  have hml : c.maxLocals = 1 := hml0
  have hown : s.vm.findClass "com/example/kdata/kdata/XmlCharsIsCharPinLaw" = some m.cls := findClass_of_methodNamed Bd.named
  have hnm := (name_of_methodNamed Bd.named Bd.method).1
  have X0 : Stand p l e ({ frames := 0, cells := 0, slots := 0, locals := 0 } : Room) s m #[(.int u1)] below meth c s₁ [] 0 0 := Stand.of_body Bd
  have e0 : s₁.heap = h0 := by rw [← hh, Bd.state]; rfl
  have N0 := Fr.nil n0
  show own_Go p e below s (Q2 u1 h0 n0) ({ frames := 0, cells := 0, slots := 0, locals := 0 } : Room).cells ({ frames := 0, cells := 0, slots := 0, locals := 0 } : Room).slots (s₁.setTop (entryFrame m #[(.int u1)] 1))
  refine own_go (b := s₁.setTop (mkF m 0 #[.val (.int u1)] [])) (fun t k => castTop (ef_2 m u1) k) ?_
  have J52 : ∀ (T : State) (lc : List Loc), Stand p l e ({ frames := 0, cells := 0, slots := 0, locals := 0 } : Room) s m #[(.int u1)] below meth c T lc 0 0 → Fr n0 lc → T.heap = h0 → own_expd_0 u1 = own_expd_52 u1  → own_Go p e below s (Q2 u1 h0 n0) ({ frames := 0, cells := 0, slots := 0, locals := 0 } : Room).cells ({ frames := 0, cells := 0, slots := 0, locals := 0 } : Room).slots (T.setTop (mkF m 52 #[.val (.int u1)] [])) := by
    intro T lc X N eT    hv
    refine own_go (b := T.setTop (mkF m 55 #[.val (.int u1)] [(.int (65536 : Int32)), (.int u1)])) (fun t k => ?_) ?_
    · show Steps p.tables e below (T.setTop (mkF m 52 #[.val (.int u1)] [])) _
      refine XS.iloadN X.here hx rfl (hb hby d2_52) rfl ?_
      show Steps p.tables e below (T.setTop (mkF m 53 #[.val (.int u1)] [(.int u1)])) _
      refine X.ldcI hx hown (mvT hZ (hw _ (List.mem_of_getElem? (i := 4) rfl))) rfl (hb hby d2_53) ?_
      show Steps p.tables e below (T.setTop (mkF m 55 #[.val (.int u1)] [(.int (65536 : Int32)), (.int u1)])) _
      exact k
    by_cases hc55 : u1 < (65536 : Int32)
    · refine own_end X Bd.notSynchronized (v := some (.int (0 : Int32))) (fun h => by rw [Bd.returns] at h; cases h) (fun fs hr => ?_) eT ?_ (by decide) (by decide)
      · show Steps p.tables e below (T.setTop (mkF m 55 #[.val (.int u1)] [(.int (65536 : Int32)), (.int u1)])) _
        refine XS.icmpYes X.here hx rfl (pc0 := 55) (pc' := 66) rfl (hb hby d2_55) rfl (tlt hc55).1 (by decide) (by decide) ?_
        show Steps p.tables e below (T.setTop (mkF m 66 #[.val (.int u1)] [])) _
        refine XS.iconst X.here hx rfl (hb hby d2_66) ?_
        show Steps p.tables e below (T.setTop (mkF m 67 #[.val (.int u1)] [(.int (0 : Int32))])) _
        exact retN X hx (t := .boolean) Bd.returns (by simp) (hb hby d2_67) hr
      · exact ⟨by rw [hv, own_expd_52, if_pos hc55], N, rfl⟩
    · refine own_go (b := T.setTop (mkF m 61 #[.val (.int u1)] [(.int (1114111 : Int32)), (.int u1)])) (fun t k => ?_) ?_
      · show Steps p.tables e below (T.setTop (mkF m 55 #[.val (.int u1)] [(.int (65536 : Int32)), (.int u1)])) _
        refine XS.icmpNo X.here hx rfl (hb hby d2_55) rfl (flt hc55).1 ?_
        show Steps p.tables e below (T.setTop (mkF m 58 #[.val (.int u1)] [])) _
        refine XS.iloadN X.here hx rfl (hb hby d2_58) rfl ?_
        show Steps p.tables e below (T.setTop (mkF m 59 #[.val (.int u1)] [(.int u1)])) _
        refine X.ldcI hx hown (mvT hZ (hw _ (List.mem_of_getElem? (i := 5) rfl))) rfl (hb hby d2_59) ?_
        show Steps p.tables e below (T.setTop (mkF m 61 #[.val (.int u1)] [(.int (1114111 : Int32)), (.int u1)])) _
        exact k
      by_cases hc61 : (1114111 : Int32) < u1
      · refine own_end X Bd.notSynchronized (v := some (.int (0 : Int32))) (fun h => by rw [Bd.returns] at h; cases h) (fun fs hr => ?_) eT ?_ (by decide) (by decide)
        · show Steps p.tables e below (T.setTop (mkF m 61 #[.val (.int u1)] [(.int (1114111 : Int32)), (.int u1)])) _
          refine XS.icmpYes X.here hx rfl (pc0 := 61) (pc' := 66) rfl (hb hby d2_61) rfl (tlt hc61).2.2.1 (by decide) (by decide) ?_
          show Steps p.tables e below (T.setTop (mkF m 66 #[.val (.int u1)] [])) _
          refine XS.iconst X.here hx rfl (hb hby d2_66) ?_
          show Steps p.tables e below (T.setTop (mkF m 67 #[.val (.int u1)] [(.int (0 : Int32))])) _
          exact retN X hx (t := .boolean) Bd.returns (by simp) (hb hby d2_67) hr
        · exact ⟨by rw [hv, own_expd_52, if_neg hc55, if_pos hc61], N, rfl⟩
      · refine own_end X Bd.notSynchronized (v := some (.int (1 : Int32))) (fun h => by rw [Bd.returns] at h; cases h) (fun fs hr => ?_) eT ?_ (by decide) (by decide)
        · show Steps p.tables e below (T.setTop (mkF m 61 #[.val (.int u1)] [(.int (1114111 : Int32)), (.int u1)])) _
          refine XS.icmpNo X.here hx rfl (hb hby d2_61) rfl (flt hc61).2.2.1 ?_
          show Steps p.tables e below (T.setTop (mkF m 64 #[.val (.int u1)] [])) _
          refine XS.iconst X.here hx rfl (hb hby d2_64) ?_
          show Steps p.tables e below (T.setTop (mkF m 65 #[.val (.int u1)] [(.int (1 : Int32))])) _
          exact retN X hx (t := .boolean) Bd.returns (by simp) (hb hby d2_65) hr
        · exact ⟨by rw [hv, own_expd_52, if_neg hc55, if_neg hc61], N, rfl⟩
  have J38 : ∀ (T : State) (lc : List Loc), Stand p l e ({ frames := 0, cells := 0, slots := 0, locals := 0 } : Room) s m #[(.int u1)] below meth c T lc 0 0 → Fr n0 lc → T.heap = h0 → own_expd_0 u1 = own_expd_38 u1  → own_Go p e below s (Q2 u1 h0 n0) ({ frames := 0, cells := 0, slots := 0, locals := 0 } : Room).cells ({ frames := 0, cells := 0, slots := 0, locals := 0 } : Room).slots (T.setTop (mkF m 38 #[.val (.int u1)] [])) := by
    intro T lc X N eT    hv
    refine own_go (b := T.setTop (mkF m 41 #[.val (.int u1)] [(.int (57344 : Int32)), (.int u1)])) (fun t k => ?_) ?_
    · show Steps p.tables e below (T.setTop (mkF m 38 #[.val (.int u1)] [])) _
      refine XS.iloadN X.here hx rfl (hb hby d2_38) rfl ?_
      show Steps p.tables e below (T.setTop (mkF m 39 #[.val (.int u1)] [(.int u1)])) _
      refine X.ldcI hx hown (mvT hZ (hw _ (List.mem_of_getElem? (i := 2) rfl))) rfl (hb hby d2_39) ?_
      show Steps p.tables e below (T.setTop (mkF m 41 #[.val (.int u1)] [(.int (57344 : Int32)), (.int u1)])) _
      exact k
    by_cases hc41 : u1 < (57344 : Int32)
    · refine own_go (b := T.setTop (mkF m 52 #[.val (.int u1)] [])) (fun t k => ?_) ?_
      · show Steps p.tables e below (T.setTop (mkF m 41 #[.val (.int u1)] [(.int (57344 : Int32)), (.int u1)])) _
        refine XS.icmpYes X.here hx rfl (pc0 := 41) (pc' := 52) rfl (hb hby d2_41) rfl (tlt hc41).1 (by decide) (by decide) ?_
        show Steps p.tables e below (T.setTop (mkF m 52 #[.val (.int u1)] [])) _
        exact k
      exact J52 T _ X N eT    (by rw [hv, own_expd_38, if_pos hc41])
    · refine own_go (b := T.setTop (mkF m 47 #[.val (.int u1)] [(.int (65533 : Int32)), (.int u1)])) (fun t k => ?_) ?_
      · show Steps p.tables e below (T.setTop (mkF m 41 #[.val (.int u1)] [(.int (57344 : Int32)), (.int u1)])) _
        refine XS.icmpNo X.here hx rfl (hb hby d2_41) rfl (flt hc41).1 ?_
        show Steps p.tables e below (T.setTop (mkF m 44 #[.val (.int u1)] [])) _
        refine XS.iloadN X.here hx rfl (hb hby d2_44) rfl ?_
        show Steps p.tables e below (T.setTop (mkF m 45 #[.val (.int u1)] [(.int u1)])) _
        refine X.ldcI hx hown (mvT hZ (hw _ (List.mem_of_getElem? (i := 3) rfl))) rfl (hb hby d2_45) ?_
        show Steps p.tables e below (T.setTop (mkF m 47 #[.val (.int u1)] [(.int (65533 : Int32)), (.int u1)])) _
        exact k
      by_cases hc47 : (65533 : Int32) < u1
      · refine own_go (b := T.setTop (mkF m 52 #[.val (.int u1)] [])) (fun t k => ?_) ?_
        · show Steps p.tables e below (T.setTop (mkF m 47 #[.val (.int u1)] [(.int (65533 : Int32)), (.int u1)])) _
          refine XS.icmpYes X.here hx rfl (pc0 := 47) (pc' := 52) rfl (hb hby d2_47) rfl (tlt hc47).2.2.1 (by decide) (by decide) ?_
          show Steps p.tables e below (T.setTop (mkF m 52 #[.val (.int u1)] [])) _
          exact k
        exact J52 T _ X N eT    (by rw [hv, own_expd_38, if_neg hc41, if_pos hc47])
      · refine own_end X Bd.notSynchronized (v := some (.int (1 : Int32))) (fun h => by rw [Bd.returns] at h; cases h) (fun fs hr => ?_) eT ?_ (by decide) (by decide)
        · show Steps p.tables e below (T.setTop (mkF m 47 #[.val (.int u1)] [(.int (65533 : Int32)), (.int u1)])) _
          refine XS.icmpNo X.here hx rfl (hb hby d2_47) rfl (flt hc47).2.2.1 ?_
          show Steps p.tables e below (T.setTop (mkF m 50 #[.val (.int u1)] [])) _
          refine XS.iconst X.here hx rfl (hb hby d2_50) ?_
          show Steps p.tables e below (T.setTop (mkF m 51 #[.val (.int u1)] [(.int (1 : Int32))])) _
          exact retN X hx (t := .boolean) Bd.returns (by simp) (hb hby d2_51) hr
        · exact ⟨by rw [hv, own_expd_38, if_neg hc41, if_neg hc47], N, rfl⟩
  refine own_go (b := s₁.setTop (mkF m 3 #[.val (.int u1)] [(.int (9 : Int32)), (.int u1)])) (fun t k => ?_) ?_
  · show Steps p.tables e below (s₁.setTop (mkF m 0 #[.val (.int u1)] [])) _
    refine XS.iloadN X0.here hx rfl (hb hby d2_0) rfl ?_
    show Steps p.tables e below (s₁.setTop (mkF m 1 #[.val (.int u1)] [(.int u1)])) _
    refine XS.bipush X0.here hx rfl (hb hby d2_1) ?_
    show Steps p.tables e below (s₁.setTop (mkF m 3 #[.val (.int u1)] [(.int (9 : Int32)), (.int u1)])) _
    exact k
  by_cases hc3 : u1 = (9 : Int32)
  · refine own_end X0 Bd.notSynchronized (v := some (.int (1 : Int32))) (fun h => by rw [Bd.returns] at h; cases h) (fun fs hr => ?_) e0 ?_ (by decide) (by decide)
    · show Steps p.tables e below (s₁.setTop (mkF m 3 #[.val (.int u1)] [(.int (9 : Int32)), (.int u1)])) _
      refine XS.icmpNo X0.here hx rfl (hb hby d2_3) rfl (teq hc3).2 ?_
      show Steps p.tables e below (s₁.setTop (mkF m 6 #[.val (.int u1)] [])) _
      refine XS.iconst X0.here hx rfl (hb hby d2_6) ?_
      show Steps p.tables e below (s₁.setTop (mkF m 7 #[.val (.int u1)] [(.int (1 : Int32))])) _
      exact retN X0 hx (t := .boolean) Bd.returns (by simp) (hb hby d2_7) hr
    · exact ⟨by rw [own_expd_0, if_pos hc3], N0, rfl⟩
  · refine own_go (b := s₁.setTop (mkF m 11 #[.val (.int u1)] [(.int (10 : Int32)), (.int u1)])) (fun t k => ?_) ?_
    · show Steps p.tables e below (s₁.setTop (mkF m 3 #[.val (.int u1)] [(.int (9 : Int32)), (.int u1)])) _
      refine XS.icmpYes X0.here hx rfl (pc0 := 3) (pc' := 8) rfl (hb hby d2_3) rfl (feq hc3).2 (by decide) (by decide) ?_
      show Steps p.tables e below (s₁.setTop (mkF m 8 #[.val (.int u1)] [])) _
      refine XS.iloadN X0.here hx rfl (hb hby d2_8) rfl ?_
      show Steps p.tables e below (s₁.setTop (mkF m 9 #[.val (.int u1)] [(.int u1)])) _
      refine XS.bipush X0.here hx rfl (hb hby d2_9) ?_
      show Steps p.tables e below (s₁.setTop (mkF m 11 #[.val (.int u1)] [(.int (10 : Int32)), (.int u1)])) _
      exact k
    by_cases hc11 : u1 = (10 : Int32)
    · refine own_end X0 Bd.notSynchronized (v := some (.int (1 : Int32))) (fun h => by rw [Bd.returns] at h; cases h) (fun fs hr => ?_) e0 ?_ (by decide) (by decide)
      · show Steps p.tables e below (s₁.setTop (mkF m 11 #[.val (.int u1)] [(.int (10 : Int32)), (.int u1)])) _
        refine XS.icmpNo X0.here hx rfl (hb hby d2_11) rfl (teq hc11).2 ?_
        show Steps p.tables e below (s₁.setTop (mkF m 14 #[.val (.int u1)] [])) _
        refine XS.iconst X0.here hx rfl (hb hby d2_14) ?_
        show Steps p.tables e below (s₁.setTop (mkF m 15 #[.val (.int u1)] [(.int (1 : Int32))])) _
        exact retN X0 hx (t := .boolean) Bd.returns (by simp) (hb hby d2_15) hr
      · exact ⟨by rw [own_expd_0, if_neg hc3, if_pos hc11], N0, rfl⟩
    · refine own_go (b := s₁.setTop (mkF m 19 #[.val (.int u1)] [(.int (13 : Int32)), (.int u1)])) (fun t k => ?_) ?_
      · show Steps p.tables e below (s₁.setTop (mkF m 11 #[.val (.int u1)] [(.int (10 : Int32)), (.int u1)])) _
        refine XS.icmpYes X0.here hx rfl (pc0 := 11) (pc' := 16) rfl (hb hby d2_11) rfl (feq hc11).2 (by decide) (by decide) ?_
        show Steps p.tables e below (s₁.setTop (mkF m 16 #[.val (.int u1)] [])) _
        refine XS.iloadN X0.here hx rfl (hb hby d2_16) rfl ?_
        show Steps p.tables e below (s₁.setTop (mkF m 17 #[.val (.int u1)] [(.int u1)])) _
        refine XS.bipush X0.here hx rfl (hb hby d2_17) ?_
        show Steps p.tables e below (s₁.setTop (mkF m 19 #[.val (.int u1)] [(.int (13 : Int32)), (.int u1)])) _
        exact k
      by_cases hc19 : u1 = (13 : Int32)
      · refine own_end X0 Bd.notSynchronized (v := some (.int (1 : Int32))) (fun h => by rw [Bd.returns] at h; cases h) (fun fs hr => ?_) e0 ?_ (by decide) (by decide)
        · show Steps p.tables e below (s₁.setTop (mkF m 19 #[.val (.int u1)] [(.int (13 : Int32)), (.int u1)])) _
          refine XS.icmpNo X0.here hx rfl (hb hby d2_19) rfl (teq hc19).2 ?_
          show Steps p.tables e below (s₁.setTop (mkF m 22 #[.val (.int u1)] [])) _
          refine XS.iconst X0.here hx rfl (hb hby d2_22) ?_
          show Steps p.tables e below (s₁.setTop (mkF m 23 #[.val (.int u1)] [(.int (1 : Int32))])) _
          exact retN X0 hx (t := .boolean) Bd.returns (by simp) (hb hby d2_23) hr
        · exact ⟨by rw [own_expd_0, if_neg hc3, if_neg hc11, if_pos hc19], N0, rfl⟩
      · refine own_go (b := s₁.setTop (mkF m 27 #[.val (.int u1)] [(.int (32 : Int32)), (.int u1)])) (fun t k => ?_) ?_
        · show Steps p.tables e below (s₁.setTop (mkF m 19 #[.val (.int u1)] [(.int (13 : Int32)), (.int u1)])) _
          refine XS.icmpYes X0.here hx rfl (pc0 := 19) (pc' := 24) rfl (hb hby d2_19) rfl (feq hc19).2 (by decide) (by decide) ?_
          show Steps p.tables e below (s₁.setTop (mkF m 24 #[.val (.int u1)] [])) _
          refine XS.iloadN X0.here hx rfl (hb hby d2_24) rfl ?_
          show Steps p.tables e below (s₁.setTop (mkF m 25 #[.val (.int u1)] [(.int u1)])) _
          refine XS.bipush X0.here hx rfl (hb hby d2_25) ?_
          show Steps p.tables e below (s₁.setTop (mkF m 27 #[.val (.int u1)] [(.int (32 : Int32)), (.int u1)])) _
          exact k
        by_cases hc27 : u1 < (32 : Int32)
        · refine own_go (b := s₁.setTop (mkF m 38 #[.val (.int u1)] [])) (fun t k => ?_) ?_
          · show Steps p.tables e below (s₁.setTop (mkF m 27 #[.val (.int u1)] [(.int (32 : Int32)), (.int u1)])) _
            refine XS.icmpYes X0.here hx rfl (pc0 := 27) (pc' := 38) rfl (hb hby d2_27) rfl (tlt hc27).1 (by decide) (by decide) ?_
            show Steps p.tables e below (s₁.setTop (mkF m 38 #[.val (.int u1)] [])) _
            exact k
          exact J38 s₁ _ X0 N0 e0    (by rw [own_expd_0, if_neg hc3, if_neg hc11, if_neg hc19, if_pos hc27])
        · refine own_go (b := s₁.setTop (mkF m 33 #[.val (.int u1)] [(.int (55295 : Int32)), (.int u1)])) (fun t k => ?_) ?_
          · show Steps p.tables e below (s₁.setTop (mkF m 27 #[.val (.int u1)] [(.int (32 : Int32)), (.int u1)])) _
            refine XS.icmpNo X0.here hx rfl (hb hby d2_27) rfl (flt hc27).1 ?_
            show Steps p.tables e below (s₁.setTop (mkF m 30 #[.val (.int u1)] [])) _
            refine XS.iloadN X0.here hx rfl (hb hby d2_30) rfl ?_
            show Steps p.tables e below (s₁.setTop (mkF m 31 #[.val (.int u1)] [(.int u1)])) _
            refine X0.ldcI hx hown (mvT hZ (hw _ (List.mem_of_getElem? (i := 1) rfl))) rfl (hb hby d2_31) ?_
            show Steps p.tables e below (s₁.setTop (mkF m 33 #[.val (.int u1)] [(.int (55295 : Int32)), (.int u1)])) _
            exact k
          by_cases hc33 : (55295 : Int32) < u1
          · refine own_go (b := s₁.setTop (mkF m 38 #[.val (.int u1)] [])) (fun t k => ?_) ?_
            · show Steps p.tables e below (s₁.setTop (mkF m 33 #[.val (.int u1)] [(.int (55295 : Int32)), (.int u1)])) _
              refine XS.icmpYes X0.here hx rfl (pc0 := 33) (pc' := 38) rfl (hb hby d2_33) rfl (tlt hc33).2.2.1 (by decide) (by decide) ?_
              show Steps p.tables e below (s₁.setTop (mkF m 38 #[.val (.int u1)] [])) _
              exact k
            exact J38 s₁ _ X0 N0 e0    (by rw [own_expd_0, if_neg hc3, if_neg hc11, if_neg hc19, if_neg hc27, if_pos hc33])
          · refine own_end X0 Bd.notSynchronized (v := some (.int (1 : Int32))) (fun h => by rw [Bd.returns] at h; cases h) (fun fs hr => ?_) e0 ?_ (by decide) (by decide)
            · show Steps p.tables e below (s₁.setTop (mkF m 33 #[.val (.int u1)] [(.int (55295 : Int32)), (.int u1)])) _
              refine XS.icmpNo X0.here hx rfl (hb hby d2_33) rfl (flt hc33).2.2.1 ?_
              show Steps p.tables e below (s₁.setTop (mkF m 36 #[.val (.int u1)] [])) _
              refine XS.iconst X0.here hx rfl (hb hby d2_36) ?_
              show Steps p.tables e below (s₁.setTop (mkF m 37 #[.val (.int u1)] [(.int (1 : Int32))])) _
              exact retN X0 hx (t := .boolean) Bd.returns (by simp) (hb hby d2_37) hr
            · exact ⟨by rw [own_expd_0, if_neg hc3, if_neg hc11, if_neg hc19, if_neg hc27, if_neg hc33], N0, rfl⟩
theorem own_same (u : Int32) : own_isChar_0 u = own_expd_0 u := by
  simp only [own_isChar_0, own_isChar_48, own_expd_0, own_expd_38, own_expd_52, Int32.lt_iff_toInt_lt, ← Int32.toInt_inj, Int32.reduceToInt]
  generalize u.toInt = n
  repeat' split
  all_goals first | rfl | (exfalso; omega)
theorem own_and15 (x : Int32) : ¬ (x &&& (15 : Int32)) < 0 ∧ (x &&& (15 : Int32)).toNatClampNeg < (16 : Int32).toNatClampNeg := by
  have h := Jvm.Kit.i32_mask x 15 (k := 4) (by decide) (by decide)
  refine ⟨?_, ?_⟩
  · rw [Int32.lt_iff_toInt_lt, h]; show ¬ _ < (0 : Int); omega
  · show (x &&& (15 : Int32)).toInt.toNat < 16; rw [h]; omega
theorem pd__28I_29Z : parseMethodDescriptor "(I)Z" = some ⟨[.int], some .boolean⟩ := by decide +kernel
theorem pn_0 : plainName "com/example/kdata/kdata/XmlCharsIsCharPinLaw" = true := by first | (simp [plainName, overriddenIn]; done) | decide +kernel
theorem ef_0 (m : MethodId) (x0 : Int32) (x1 : Int32) (x2 : Int32) (x3 : Int32) : entryFrame m #[(.int x0), (.int x1), (.int x2), (.int x3)] maxLocals = mkF m 0 #[.val (.int x0), .val (.int x1), .val (.int x2), .val (.int x3), .unset, .unset, .unset] [] := by first | (simp [entryFrame, mkF, argsToLocals, Value.category, maxLocals]; done) | rfl
def Q0 (p1 : Int32) (p2 : Int32) (p3 : Int32) (p4 : Int32) (h0 : Heap) (n0 : Nat) (v : Option Value) (h : Heap) (L : List Loc) : Prop := v = some (.int 1) ∧ Fr n0 L
set_option maxRecDepth 65536 in
set_option maxHeartbeats 40000000 in
theorem rm0 (l : Launch) (Z : State) (a0 : Array Value) (hw : ∀ d ∈ tables_1, d.before a0 Z = true) (ws : List Jvm.Cond) (p1 : Int32) (p2 : Int32) (p3 : Int32) (p4 : Int32) (h0 : Heap) (n0 : Nat) (Z0 : n0 ≤ h0.size)  :
    MetFree l x (head1 (Jvm.Cond.code x code maxLocals ret :: ws) room_1) (fun a U => a = #[(.int p1), (.int p2), (.int p3), (.int p4)] ∧ Z.Warmed39 U.vm ∧ U.heap = h0) (fun _ _ _ _ _ => True) (fun _ U o U' => ∃ v L, o = .returned v ∧ Q0 p1 p2 p3 p4 h0 n0 v U'.heap L ∧ FrameEnd U o U' L 16 128) := by
  refine MetFree.of_bodySF (plainFor_of_name pn_0) hisR ?_
  intro p e s m args below meth c s₁ Bd hml0 hP hK
  obtain ⟨rfl, hZ, hh⟩ := hP
  have hx := Bd.exec
  have hby := Bd.bytes
  have hml : c.maxLocals = 7 := hml0
  have hown : s.vm.findClass "com/example/kdata/kdata/XmlCharsIsCharPinLaw" = some m.cls := findClass_of_methodNamed Bd.named
  have hnm := (name_of_methodNamed Bd.named Bd.method).1
  have X0 : Stand p l e room_1 s m #[(.int p1), (.int p2), (.int p3), (.int p4)] below meth c s₁ [] 0 0 := Stand.of_body Bd
  have e0 : s₁.heap = h0 := by rw [← hh, Bd.state]; rfl
  have N0 := Fr.nil n0
  show own_Go p e below s (Q0 p1 p2 p3 p4 h0 n0) 16 128 (s₁.setTop (entryFrame m #[(.int p1), (.int p2), (.int p3), (.int p4)] maxLocals))
  refine own_go (b := s₁.setTop (mkF m 0 #[.val (.int p1), .val (.int p2), .val (.int p3), .val (.int p4), .unset, .unset, .unset] [])) (fun t k => castTop (ef_0 m p1 p2 p3 p4) k) ?_
  obtain ⟨T1, h1, k1, X1, e1, E1, A1, B1, st1⟩ := newPE X0 hx hZ (hw _ (List.mem_of_getElem? (i := 0) rfl)) e0 (g := (mkF m 2 #[.val (.int p1), .val (.int p2), .val (.int p3), .val (.int p4), .unset, .unset, .unset] [(.int (16 : Int32))])) rfl (hb hby at_2) rfl (by decide) (cap := 16) (by decide) (by decide) (by decide) (by decide) (ad := "[I") (by first | rfl | decide +kernel)
  obtain ⟨a1, ga1⟩ : ∃ z, z = h0.size := ⟨_, rfl⟩
  rw [← ga1] at A1 B1 st1
  have lo1 : n0 ≤ a1 := Nat.le_trans Z0 (Nat.le_of_eq ga1.symm)
  have Z1 : n0 ≤ h1.size := Nat.le_trans Z0 E1.1
  have V2 : Arv Z h1 a1 k1 .int (16 : Int32) [(.int (0 : Int32)), (.int (0 : Int32)), (.int (0 : Int32)), (.int (0 : Int32)), (.int (0 : Int32)), (.int (0 : Int32)), (.int (0 : Int32)), (.int (0 : Int32)), (.int (0 : Int32)), (.int (0 : Int32)), (.int (0 : Int32)), (.int (0 : Int32)), (.int (0 : Int32)), (.int (0 : Int32)), (.int (0 : Int32)), (.int (0 : Int32))] (.int (0 : Int32)) := (Arv.new A1 (by decide)).pad (pad_rep [] (.int (0 : Int32)) 16)
  obtain ⟨cl3, Ar3, q3, S3, M3, H3, U3⟩ := id V2
  obtain ⟨T4, h4, X4, e4, W4, st4⟩ := stI X1 hx hZ e1 Ar3 (j := (0 : Int32)) (by rw [S3]; decide) (g := (mkF m 7 #[.val (.int p1), .val (.int p2), .val (.int p3), .val (.int p4), .unset, .unset, .unset] [(.int (0 : Int32)), (.int (0 : Int32)), (.ref a1), (.ref a1)])) rfl rfl (hb hby at_7)
  have N4 := Fr.snoc X4 N0 lo1
  have V5 : Arv Z h4 a1 k1 .int (16 : Int32) [(.int (0 : Int32)), (.int (0 : Int32)), (.int (0 : Int32)), (.int (0 : Int32)), (.int (0 : Int32)), (.int (0 : Int32)), (.int (0 : Int32)), (.int (0 : Int32)), (.int (0 : Int32)), (.int (0 : Int32)), (.int (0 : Int32)), (.int (0 : Int32)), (.int (0 : Int32)), (.int (0 : Int32)), (.int (0 : Int32)), (.int (0 : Int32))] (.int (0 : Int32)) := Arv.set Ar3 q3 S3 M3 H3 U3 rfl W4 0 rfl (by show 0 < 16; decide)
  have E6 := B1.wr W4
  have Z4 : n0 ≤ h4.size := by rw [W4.size]; exact Z1
  obtain ⟨cl7, Ar7, q7, S7, M7, H7, U7⟩ := id V5
  obtain ⟨T8, h8, X8, e8, W8, st8⟩ := stI X4 hx hZ e4 Ar7 (j := (1 : Int32)) (by rw [S7]; decide) (g := (mkF m 12 #[.val (.int p1), .val (.int p2), .val (.int p3), .val (.int p4), .unset, .unset, .unset] [(.int (9 : Int32)), (.int (1 : Int32)), (.ref a1), (.ref a1)])) rfl rfl (hb hby at_12)
  have N8 := Fr.snoc X8 N4 lo1
  have V9 : Arv Z h8 a1 k1 .int (16 : Int32) [(.int (0 : Int32)), (.int (9 : Int32)), (.int (0 : Int32)), (.int (0 : Int32)), (.int (0 : Int32)), (.int (0 : Int32)), (.int (0 : Int32)), (.int (0 : Int32)), (.int (0 : Int32)), (.int (0 : Int32)), (.int (0 : Int32)), (.int (0 : Int32)), (.int (0 : Int32)), (.int (0 : Int32)), (.int (0 : Int32)), (.int (0 : Int32))] (.int (0 : Int32)) := Arv.set Ar7 q7 S7 M7 H7 U7 rfl W8 1 rfl (by show 1 < 16; decide)
  have E10 := E6.wr W8
  have Z8 : n0 ≤ h8.size := by rw [W8.size]; exact Z4
  obtain ⟨cl11, Ar11, q11, S11, M11, H11, U11⟩ := id V9
  obtain ⟨T12, h12, X12, e12, W12, st12⟩ := stI X8 hx hZ e8 Ar11 (j := (2 : Int32)) (by rw [S11]; decide) (g := (mkF m 17 #[.val (.int p1), .val (.int p2), .val (.int p3), .val (.int p4), .unset, .unset, .unset] [(.int (10 : Int32)), (.int (2 : Int32)), (.ref a1), (.ref a1)])) rfl rfl (hb hby at_17)
  have N12 := Fr.snoc X12 N8 lo1
  have V13 : Arv Z h12 a1 k1 .int (16 : Int32) [(.int (0 : Int32)), (.int (9 : Int32)), (.int (10 : Int32)), (.int (0 : Int32)), (.int (0 : Int32)), (.int (0 : Int32)), (.int (0 : Int32)), (.int (0 : Int32)), (.int (0 : Int32)), (.int (0 : Int32)), (.int (0 : Int32)), (.int (0 : Int32)), (.int (0 : Int32)), (.int (0 : Int32)), (.int (0 : Int32)), (.int (0 : Int32))] (.int (0 : Int32)) := Arv.set Ar11 q11 S11 M11 H11 U11 rfl W12 2 rfl (by show 2 < 16; decide)
  have E14 := E10.wr W12
  have Z12 : n0 ≤ h12.size := by rw [W12.size]; exact Z8
  obtain ⟨cl15, Ar15, q15, S15, M15, H15, U15⟩ := id V13
  obtain ⟨T16, h16, X16, e16, W16, st16⟩ := stI X12 hx hZ e12 Ar15 (j := (3 : Int32)) (by rw [S15]; decide) (g := (mkF m 22 #[.val (.int p1), .val (.int p2), .val (.int p3), .val (.int p4), .unset, .unset, .unset] [(.int (13 : Int32)), (.int (3 : Int32)), (.ref a1), (.ref a1)])) rfl rfl (hb hby at_22)
  have N16 := Fr.snoc X16 N12 lo1
  have V17 : Arv Z h16 a1 k1 .int (16 : Int32) [(.int (0 : Int32)), (.int (9 : Int32)), (.int (10 : Int32)), (.int (13 : Int32)), (.int (0 : Int32)), (.int (0 : Int32)), (.int (0 : Int32)), (.int (0 : Int32)), (.int (0 : Int32)), (.int (0 : Int32)), (.int (0 : Int32)), (.int (0 : Int32)), (.int (0 : Int32)), (.int (0 : Int32)), (.int (0 : Int32)), (.int (0 : Int32))] (.int (0 : Int32)) := Arv.set Ar15 q15 S15 M15 H15 U15 rfl W16 3 rfl (by show 3 < 16; decide)
  have E18 := E14.wr W16
  have Z16 : n0 ≤ h16.size := by rw [W16.size]; exact Z12
  obtain ⟨cl19, Ar19, q19, S19, M19, H19, U19⟩ := id V17
  obtain ⟨T20, h20, X20, e20, W20, st20⟩ := stI X16 hx hZ e16 Ar19 (j := (4 : Int32)) (by rw [S19]; decide) (g := (mkF m 27 #[.val (.int p1), .val (.int p2), .val (.int p3), .val (.int p4), .unset, .unset, .unset] [(.int (32 : Int32)), (.int (4 : Int32)), (.ref a1), (.ref a1)])) rfl rfl (hb hby at_27)
  have N20 := Fr.snoc X20 N16 lo1
  have V21 : Arv Z h20 a1 k1 .int (16 : Int32) [(.int (0 : Int32)), (.int (9 : Int32)), (.int (10 : Int32)), (.int (13 : Int32)), (.int (32 : Int32)), (.int (0 : Int32)), (.int (0 : Int32)), (.int (0 : Int32)), (.int (0 : Int32)), (.int (0 : Int32)), (.int (0 : Int32)), (.int (0 : Int32)), (.int (0 : Int32)), (.int (0 : Int32)), (.int (0 : Int32)), (.int (0 : Int32))] (.int (0 : Int32)) := Arv.set Ar19 q19 S19 M19 H19 U19 rfl W20 4 rfl (by show 4 < 16; decide)
  have E22 := E18.wr W20
  have Z20 : n0 ≤ h20.size := by rw [W20.size]; exact Z16
  obtain ⟨cl23, Ar23, q23, S23, M23, H23, U23⟩ := id V21
  obtain ⟨T24, h24, X24, e24, W24, st24⟩ := stI X20 hx hZ e20 Ar23 (j := (5 : Int32)) (by rw [S23]; decide) (g := (mkF m 32 #[.val (.int p1), .val (.int p2), .val (.int p3), .val (.int p4), .unset, .unset, .unset] [(.int (55295 : Int32)), (.int (5 : Int32)), (.ref a1), (.ref a1)])) rfl rfl (hb hby at_32)
  have N24 := Fr.snoc X24 N20 lo1
  have V25 : Arv Z h24 a1 k1 .int (16 : Int32) [(.int (0 : Int32)), (.int (9 : Int32)), (.int (10 : Int32)), (.int (13 : Int32)), (.int (32 : Int32)), (.int (55295 : Int32)), (.int (0 : Int32)), (.int (0 : Int32)), (.int (0 : Int32)), (.int (0 : Int32)), (.int (0 : Int32)), (.int (0 : Int32)), (.int (0 : Int32)), (.int (0 : Int32)), (.int (0 : Int32)), (.int (0 : Int32))] (.int (0 : Int32)) := Arv.set Ar23 q23 S23 M23 H23 U23 rfl W24 5 rfl (by show 5 < 16; decide)
  have E26 := E22.wr W24
  have Z24 : n0 ≤ h24.size := by rw [W24.size]; exact Z20
  obtain ⟨cl27, Ar27, q27, S27, M27, H27, U27⟩ := id V25
  obtain ⟨T28, h28, X28, e28, W28, st28⟩ := stI X24 hx hZ e24 Ar27 (j := (6 : Int32)) (by rw [S27]; decide) (g := (mkF m 38 #[.val (.int p1), .val (.int p2), .val (.int p3), .val (.int p4), .unset, .unset, .unset] [(.int (57344 : Int32)), (.int (6 : Int32)), (.ref a1), (.ref a1)])) rfl rfl (hb hby at_38)
  have N28 := Fr.snoc X28 N24 lo1
  have V29 : Arv Z h28 a1 k1 .int (16 : Int32) [(.int (0 : Int32)), (.int (9 : Int32)), (.int (10 : Int32)), (.int (13 : Int32)), (.int (32 : Int32)), (.int (55295 : Int32)), (.int (57344 : Int32)), (.int (0 : Int32)), (.int (0 : Int32)), (.int (0 : Int32)), (.int (0 : Int32)), (.int (0 : Int32)), (.int (0 : Int32)), (.int (0 : Int32)), (.int (0 : Int32)), (.int (0 : Int32))] (.int (0 : Int32)) := Arv.set Ar27 q27 S27 M27 H27 U27 rfl W28 6 rfl (by show 6 < 16; decide)
  have E30 := E26.wr W28
  have Z28 : n0 ≤ h28.size := by rw [W28.size]; exact Z24
  obtain ⟨cl31, Ar31, q31, S31, M31, H31, U31⟩ := id V29
  obtain ⟨T32, h32, X32, e32, W32, st32⟩ := stI X28 hx hZ e28 Ar31 (j := (7 : Int32)) (by rw [S31]; decide) (g := (mkF m 44 #[.val (.int p1), .val (.int p2), .val (.int p3), .val (.int p4), .unset, .unset, .unset] [(.int (65533 : Int32)), (.int (7 : Int32)), (.ref a1), (.ref a1)])) rfl rfl (hb hby at_44)
  have N32 := Fr.snoc X32 N28 lo1
  have V33 : Arv Z h32 a1 k1 .int (16 : Int32) [(.int (0 : Int32)), (.int (9 : Int32)), (.int (10 : Int32)), (.int (13 : Int32)), (.int (32 : Int32)), (.int (55295 : Int32)), (.int (57344 : Int32)), (.int (65533 : Int32)), (.int (0 : Int32)), (.int (0 : Int32)), (.int (0 : Int32)), (.int (0 : Int32)), (.int (0 : Int32)), (.int (0 : Int32)), (.int (0 : Int32)), (.int (0 : Int32))] (.int (0 : Int32)) := Arv.set Ar31 q31 S31 M31 H31 U31 rfl W32 7 rfl (by show 7 < 16; decide)
  have E34 := E30.wr W32
  have Z32 : n0 ≤ h32.size := by rw [W32.size]; exact Z28
  obtain ⟨cl35, Ar35, q35, S35, M35, H35, U35⟩ := id V33
  obtain ⟨T36, h36, X36, e36, W36, st36⟩ := stI X32 hx hZ e32 Ar35 (j := (8 : Int32)) (by rw [S35]; decide) (g := (mkF m 50 #[.val (.int p1), .val (.int p2), .val (.int p3), .val (.int p4), .unset, .unset, .unset] [(.int (65536 : Int32)), (.int (8 : Int32)), (.ref a1), (.ref a1)])) rfl rfl (hb hby at_50)
  have N36 := Fr.snoc X36 N32 lo1
  have V37 : Arv Z h36 a1 k1 .int (16 : Int32) [(.int (0 : Int32)), (.int (9 : Int32)), (.int (10 : Int32)), (.int (13 : Int32)), (.int (32 : Int32)), (.int (55295 : Int32)), (.int (57344 : Int32)), (.int (65533 : Int32)), (.int (65536 : Int32)), (.int (0 : Int32)), (.int (0 : Int32)), (.int (0 : Int32)), (.int (0 : Int32)), (.int (0 : Int32)), (.int (0 : Int32)), (.int (0 : Int32))] (.int (0 : Int32)) := Arv.set Ar35 q35 S35 M35 H35 U35 rfl W36 8 rfl (by show 8 < 16; decide)
  have E38 := E34.wr W36
  have Z36 : n0 ≤ h36.size := by rw [W36.size]; exact Z32
  obtain ⟨cl39, Ar39, q39, S39, M39, H39, U39⟩ := id V37
  obtain ⟨T40, h40, X40, e40, W40, st40⟩ := stI X36 hx hZ e36 Ar39 (j := (9 : Int32)) (by rw [S39]; decide) (g := (mkF m 56 #[.val (.int p1), .val (.int p2), .val (.int p3), .val (.int p4), .unset, .unset, .unset] [(.int (1114111 : Int32)), (.int (9 : Int32)), (.ref a1), (.ref a1)])) rfl rfl (hb hby at_56)
  have N40 := Fr.snoc X40 N36 lo1
  have V41 : Arv Z h40 a1 k1 .int (16 : Int32) [(.int (0 : Int32)), (.int (9 : Int32)), (.int (10 : Int32)), (.int (13 : Int32)), (.int (32 : Int32)), (.int (55295 : Int32)), (.int (57344 : Int32)), (.int (65533 : Int32)), (.int (65536 : Int32)), (.int (1114111 : Int32)), (.int (0 : Int32)), (.int (0 : Int32)), (.int (0 : Int32)), (.int (0 : Int32)), (.int (0 : Int32)), (.int (0 : Int32))] (.int (0 : Int32)) := Arv.set Ar39 q39 S39 M39 H39 U39 rfl W40 9 rfl (by show 9 < 16; decide)
  have E42 := E38.wr W40
  have Z40 : n0 ≤ h40.size := by rw [W40.size]; exact Z36
  obtain ⟨cl43, Ar43, q43, S43, M43, H43, U43⟩ := id V41
  obtain ⟨T44, h44, X44, e44, W44, st44⟩ := stI X40 hx hZ e40 Ar43 (j := (10 : Int32)) (by rw [S43]; decide) (g := (mkF m 62 #[.val (.int p1), .val (.int p2), .val (.int p3), .val (.int p4), .unset, .unset, .unset] [(.int (-2147483648 : Int32)), (.int (10 : Int32)), (.ref a1), (.ref a1)])) rfl rfl (hb hby at_62)
  have N44 := Fr.snoc X44 N40 lo1
  have V45 : Arv Z h44 a1 k1 .int (16 : Int32) [(.int (0 : Int32)), (.int (9 : Int32)), (.int (10 : Int32)), (.int (13 : Int32)), (.int (32 : Int32)), (.int (55295 : Int32)), (.int (57344 : Int32)), (.int (65533 : Int32)), (.int (65536 : Int32)), (.int (1114111 : Int32)), (.int (-2147483648 : Int32)), (.int (0 : Int32)), (.int (0 : Int32)), (.int (0 : Int32)), (.int (0 : Int32)), (.int (0 : Int32))] (.int (0 : Int32)) := Arv.set Ar43 q43 S43 M43 H43 U43 rfl W44 10 rfl (by show 10 < 16; decide)
  have E46 := E42.wr W44
  have Z44 : n0 ≤ h44.size := by rw [W44.size]; exact Z40
  obtain ⟨cl47, Ar47, q47, S47, M47, H47, U47⟩ := id V45
  obtain ⟨T48, h48, X48, e48, W48, st48⟩ := stI X44 hx hZ e44 Ar47 (j := (11 : Int32)) (by rw [S47]; decide) (g := (mkF m 68 #[.val (.int p1), .val (.int p2), .val (.int p3), .val (.int p4), .unset, .unset, .unset] [(.int (2147483647 : Int32)), (.int (11 : Int32)), (.ref a1), (.ref a1)])) rfl rfl (hb hby at_68)
  have N48 := Fr.snoc X48 N44 lo1
  have V49 : Arv Z h48 a1 k1 .int (16 : Int32) [(.int (0 : Int32)), (.int (9 : Int32)), (.int (10 : Int32)), (.int (13 : Int32)), (.int (32 : Int32)), (.int (55295 : Int32)), (.int (57344 : Int32)), (.int (65533 : Int32)), (.int (65536 : Int32)), (.int (1114111 : Int32)), (.int (-2147483648 : Int32)), (.int (2147483647 : Int32)), (.int (0 : Int32)), (.int (0 : Int32)), (.int (0 : Int32)), (.int (0 : Int32))] (.int (0 : Int32)) := Arv.set Ar47 q47 S47 M47 H47 U47 rfl W48 11 rfl (by show 11 < 16; decide)
  have E50 := E46.wr W48
  have Z48 : n0 ≤ h48.size := by rw [W48.size]; exact Z44
  obtain ⟨cl51, Ar51, q51, S51, M51, H51, U51⟩ := id V49
  obtain ⟨T52, h52, X52, e52, W52, st52⟩ := stI X48 hx hZ e48 Ar51 (j := (12 : Int32)) (by rw [S51]; decide) (g := (mkF m 74 #[.val (.int p1), .val (.int p2), .val (.int p3), .val (.int p4), .unset, .unset, .unset] [(.int (55296 : Int32)), (.int (12 : Int32)), (.ref a1), (.ref a1)])) rfl rfl (hb hby at_74)
  have N52 := Fr.snoc X52 N48 lo1
  have V53 : Arv Z h52 a1 k1 .int (16 : Int32) [(.int (0 : Int32)), (.int (9 : Int32)), (.int (10 : Int32)), (.int (13 : Int32)), (.int (32 : Int32)), (.int (55295 : Int32)), (.int (57344 : Int32)), (.int (65533 : Int32)), (.int (65536 : Int32)), (.int (1114111 : Int32)), (.int (-2147483648 : Int32)), (.int (2147483647 : Int32)), (.int (55296 : Int32)), (.int (0 : Int32)), (.int (0 : Int32)), (.int (0 : Int32))] (.int (0 : Int32)) := Arv.set Ar51 q51 S51 M51 H51 U51 rfl W52 12 rfl (by show 12 < 16; decide)
  have E54 := E50.wr W52
  have Z52 : n0 ≤ h52.size := by rw [W52.size]; exact Z48
  obtain ⟨cl55, Ar55, q55, S55, M55, H55, U55⟩ := id V53
  obtain ⟨T56, h56, X56, e56, W56, st56⟩ := stI X52 hx hZ e52 Ar55 (j := (13 : Int32)) (by rw [S55]; decide) (g := (mkF m 80 #[.val (.int p1), .val (.int p2), .val (.int p3), .val (.int p4), .unset, .unset, .unset] [(.int (57343 : Int32)), (.int (13 : Int32)), (.ref a1), (.ref a1)])) rfl rfl (hb hby at_80)
  have N56 := Fr.snoc X56 N52 lo1
  have V57 : Arv Z h56 a1 k1 .int (16 : Int32) [(.int (0 : Int32)), (.int (9 : Int32)), (.int (10 : Int32)), (.int (13 : Int32)), (.int (32 : Int32)), (.int (55295 : Int32)), (.int (57344 : Int32)), (.int (65533 : Int32)), (.int (65536 : Int32)), (.int (1114111 : Int32)), (.int (-2147483648 : Int32)), (.int (2147483647 : Int32)), (.int (55296 : Int32)), (.int (57343 : Int32)), (.int (0 : Int32)), (.int (0 : Int32))] (.int (0 : Int32)) := Arv.set Ar55 q55 S55 M55 H55 U55 rfl W56 13 rfl (by show 13 < 16; decide)
  have E58 := E54.wr W56
  have Z56 : n0 ≤ h56.size := by rw [W56.size]; exact Z52
  obtain ⟨cl59, Ar59, q59, S59, M59, H59, U59⟩ := id V57
  obtain ⟨T60, h60, X60, e60, W60, st60⟩ := stI X56 hx hZ e56 Ar59 (j := (14 : Int32)) (by rw [S59]; decide) (g := (mkF m 86 #[.val (.int p1), .val (.int p2), .val (.int p3), .val (.int p4), .unset, .unset, .unset] [(.int (65535 : Int32)), (.int (14 : Int32)), (.ref a1), (.ref a1)])) rfl rfl (hb hby at_86)
  have N60 := Fr.snoc X60 N56 lo1
  have V61 : Arv Z h60 a1 k1 .int (16 : Int32) [(.int (0 : Int32)), (.int (9 : Int32)), (.int (10 : Int32)), (.int (13 : Int32)), (.int (32 : Int32)), (.int (55295 : Int32)), (.int (57344 : Int32)), (.int (65533 : Int32)), (.int (65536 : Int32)), (.int (1114111 : Int32)), (.int (-2147483648 : Int32)), (.int (2147483647 : Int32)), (.int (55296 : Int32)), (.int (57343 : Int32)), (.int (65535 : Int32)), (.int (0 : Int32))] (.int (0 : Int32)) := Arv.set Ar59 q59 S59 M59 H59 U59 rfl W60 14 rfl (by show 14 < 16; decide)
  have E62 := E58.wr W60
  have Z60 : n0 ≤ h60.size := by rw [W60.size]; exact Z56
  obtain ⟨cl63, Ar63, q63, S63, M63, H63, U63⟩ := id V61
  obtain ⟨T64, h64, X64, e64, W64, st64⟩ := stI X60 hx hZ e60 Ar63 (j := (15 : Int32)) (by rw [S63]; decide) (g := (mkF m 92 #[.val (.int p1), .val (.int p2), .val (.int p3), .val (.int p4), .unset, .unset, .unset] [(.int (127 : Int32)), (.int (15 : Int32)), (.ref a1), (.ref a1)])) rfl rfl (hb hby at_92)
  have N64 := Fr.snoc X64 N60 lo1
  have V65 : Arv Z h64 a1 k1 .int (16 : Int32) [(.int (0 : Int32)), (.int (9 : Int32)), (.int (10 : Int32)), (.int (13 : Int32)), (.int (32 : Int32)), (.int (55295 : Int32)), (.int (57344 : Int32)), (.int (65533 : Int32)), (.int (65536 : Int32)), (.int (1114111 : Int32)), (.int (-2147483648 : Int32)), (.int (2147483647 : Int32)), (.int (55296 : Int32)), (.int (57343 : Int32)), (.int (65535 : Int32)), (.int (127 : Int32))] (.int (0 : Int32)) := Arv.set Ar63 q63 S63 M63 H63 U63 rfl W64 15 rfl (by show 15 < 16; decide)
  have E66 := E62.wr W64
  have Z64 : n0 ≤ h64.size := by rw [W64.size]; exact Z60
  refine own_go (b := T64.setTop (mkF m 108 #[.val (.int p1), .val (.int p2), .val (.int p3), .val (.int p4), .val (.ref a1), .val (.int (((p4 &&& (2147483647 : Int32)) % (5 : Int32)) - (2 : Int32))), .unset] [(.int (p2 &&& (1 : Int32)))])) (fun t k => ?_) ?_
  · show Steps p.tables e below (s₁.setTop (mkF m 0 #[.val (.int p1), .val (.int p2), .val (.int p3), .val (.int p4), .unset, .unset, .unset] [])) _
    refine XS.bipush X0.here hx rfl (hb hby at_0) ?_
    show Steps p.tables e below (s₁.setTop (mkF m 2 #[.val (.int p1), .val (.int p2), .val (.int p3), .val (.int p4), .unset, .unset, .unset] [(.int (16 : Int32))])) _
    refine st1 _ ?_
    show Steps p.tables e below (T1.setTop (mkF m 4 #[.val (.int p1), .val (.int p2), .val (.int p3), .val (.int p4), .unset, .unset, .unset] [(.ref a1)])) _
    refine XS.dup X1.here hx rfl (hb hby at_4) rfl rfl ?_
    show Steps p.tables e below (T1.setTop (mkF m 5 #[.val (.int p1), .val (.int p2), .val (.int p3), .val (.int p4), .unset, .unset, .unset] [(.ref a1), (.ref a1)])) _
    refine XS.iconst X1.here hx rfl (hb hby at_5) ?_
    show Steps p.tables e below (T1.setTop (mkF m 6 #[.val (.int p1), .val (.int p2), .val (.int p3), .val (.int p4), .unset, .unset, .unset] [(.int (0 : Int32)), (.ref a1), (.ref a1)])) _
    refine XS.iconst X1.here hx rfl (hb hby at_6) ?_
    show Steps p.tables e below (T1.setTop (mkF m 7 #[.val (.int p1), .val (.int p2), .val (.int p3), .val (.int p4), .unset, .unset, .unset] [(.int (0 : Int32)), (.int (0 : Int32)), (.ref a1), (.ref a1)])) _
    refine st4 _ ?_
    show Steps p.tables e below (T4.setTop (mkF m 8 #[.val (.int p1), .val (.int p2), .val (.int p3), .val (.int p4), .unset, .unset, .unset] [(.ref a1)])) _
    refine XS.dup X4.here hx rfl (hb hby at_8) rfl rfl ?_
    show Steps p.tables e below (T4.setTop (mkF m 9 #[.val (.int p1), .val (.int p2), .val (.int p3), .val (.int p4), .unset, .unset, .unset] [(.ref a1), (.ref a1)])) _
    refine XS.iconst X4.here hx rfl (hb hby at_9) ?_
    show Steps p.tables e below (T4.setTop (mkF m 10 #[.val (.int p1), .val (.int p2), .val (.int p3), .val (.int p4), .unset, .unset, .unset] [(.int (1 : Int32)), (.ref a1), (.ref a1)])) _
    refine XS.bipush X4.here hx rfl (hb hby at_10) ?_
    show Steps p.tables e below (T4.setTop (mkF m 12 #[.val (.int p1), .val (.int p2), .val (.int p3), .val (.int p4), .unset, .unset, .unset] [(.int (9 : Int32)), (.int (1 : Int32)), (.ref a1), (.ref a1)])) _
    refine st8 _ ?_
    show Steps p.tables e below (T8.setTop (mkF m 13 #[.val (.int p1), .val (.int p2), .val (.int p3), .val (.int p4), .unset, .unset, .unset] [(.ref a1)])) _
    refine XS.dup X8.here hx rfl (hb hby at_13) rfl rfl ?_
    show Steps p.tables e below (T8.setTop (mkF m 14 #[.val (.int p1), .val (.int p2), .val (.int p3), .val (.int p4), .unset, .unset, .unset] [(.ref a1), (.ref a1)])) _
    refine XS.iconst X8.here hx rfl (hb hby at_14) ?_
    show Steps p.tables e below (T8.setTop (mkF m 15 #[.val (.int p1), .val (.int p2), .val (.int p3), .val (.int p4), .unset, .unset, .unset] [(.int (2 : Int32)), (.ref a1), (.ref a1)])) _
    refine XS.bipush X8.here hx rfl (hb hby at_15) ?_
    show Steps p.tables e below (T8.setTop (mkF m 17 #[.val (.int p1), .val (.int p2), .val (.int p3), .val (.int p4), .unset, .unset, .unset] [(.int (10 : Int32)), (.int (2 : Int32)), (.ref a1), (.ref a1)])) _
    refine st12 _ ?_
    show Steps p.tables e below (T12.setTop (mkF m 18 #[.val (.int p1), .val (.int p2), .val (.int p3), .val (.int p4), .unset, .unset, .unset] [(.ref a1)])) _
    refine XS.dup X12.here hx rfl (hb hby at_18) rfl rfl ?_
    show Steps p.tables e below (T12.setTop (mkF m 19 #[.val (.int p1), .val (.int p2), .val (.int p3), .val (.int p4), .unset, .unset, .unset] [(.ref a1), (.ref a1)])) _
    refine XS.iconst X12.here hx rfl (hb hby at_19) ?_
    show Steps p.tables e below (T12.setTop (mkF m 20 #[.val (.int p1), .val (.int p2), .val (.int p3), .val (.int p4), .unset, .unset, .unset] [(.int (3 : Int32)), (.ref a1), (.ref a1)])) _
    refine XS.bipush X12.here hx rfl (hb hby at_20) ?_
    show Steps p.tables e below (T12.setTop (mkF m 22 #[.val (.int p1), .val (.int p2), .val (.int p3), .val (.int p4), .unset, .unset, .unset] [(.int (13 : Int32)), (.int (3 : Int32)), (.ref a1), (.ref a1)])) _
    refine st16 _ ?_
    show Steps p.tables e below (T16.setTop (mkF m 23 #[.val (.int p1), .val (.int p2), .val (.int p3), .val (.int p4), .unset, .unset, .unset] [(.ref a1)])) _
    refine XS.dup X16.here hx rfl (hb hby at_23) rfl rfl ?_
    show Steps p.tables e below (T16.setTop (mkF m 24 #[.val (.int p1), .val (.int p2), .val (.int p3), .val (.int p4), .unset, .unset, .unset] [(.ref a1), (.ref a1)])) _
    refine XS.iconst X16.here hx rfl (hb hby at_24) ?_
    show Steps p.tables e below (T16.setTop (mkF m 25 #[.val (.int p1), .val (.int p2), .val (.int p3), .val (.int p4), .unset, .unset, .unset] [(.int (4 : Int32)), (.ref a1), (.ref a1)])) _
    refine XS.bipush X16.here hx rfl (hb hby at_25) ?_
    show Steps p.tables e below (T16.setTop (mkF m 27 #[.val (.int p1), .val (.int p2), .val (.int p3), .val (.int p4), .unset, .unset, .unset] [(.int (32 : Int32)), (.int (4 : Int32)), (.ref a1), (.ref a1)])) _
    refine st20 _ ?_
    show Steps p.tables e below (T20.setTop (mkF m 28 #[.val (.int p1), .val (.int p2), .val (.int p3), .val (.int p4), .unset, .unset, .unset] [(.ref a1)])) _
    refine XS.dup X20.here hx rfl (hb hby at_28) rfl rfl ?_
    show Steps p.tables e below (T20.setTop (mkF m 29 #[.val (.int p1), .val (.int p2), .val (.int p3), .val (.int p4), .unset, .unset, .unset] [(.ref a1), (.ref a1)])) _
    refine XS.iconst X20.here hx rfl (hb hby at_29) ?_
    show Steps p.tables e below (T20.setTop (mkF m 30 #[.val (.int p1), .val (.int p2), .val (.int p3), .val (.int p4), .unset, .unset, .unset] [(.int (5 : Int32)), (.ref a1), (.ref a1)])) _
    refine X20.ldcI hx hown (mvT hZ (hw _ (List.mem_of_getElem? (i := 1) rfl))) rfl (hb hby at_30) ?_
    show Steps p.tables e below (T20.setTop (mkF m 32 #[.val (.int p1), .val (.int p2), .val (.int p3), .val (.int p4), .unset, .unset, .unset] [(.int (55295 : Int32)), (.int (5 : Int32)), (.ref a1), (.ref a1)])) _
    refine st24 _ ?_
    show Steps p.tables e below (T24.setTop (mkF m 33 #[.val (.int p1), .val (.int p2), .val (.int p3), .val (.int p4), .unset, .unset, .unset] [(.ref a1)])) _
    refine XS.dup X24.here hx rfl (hb hby at_33) rfl rfl ?_
    show Steps p.tables e below (T24.setTop (mkF m 34 #[.val (.int p1), .val (.int p2), .val (.int p3), .val (.int p4), .unset, .unset, .unset] [(.ref a1), (.ref a1)])) _
    refine XS.bipush X24.here hx rfl (hb hby at_34) ?_
    show Steps p.tables e below (T24.setTop (mkF m 36 #[.val (.int p1), .val (.int p2), .val (.int p3), .val (.int p4), .unset, .unset, .unset] [(.int (6 : Int32)), (.ref a1), (.ref a1)])) _
    refine X24.ldcI hx hown (mvT hZ (hw _ (List.mem_of_getElem? (i := 2) rfl))) rfl (hb hby at_36) ?_
    show Steps p.tables e below (T24.setTop (mkF m 38 #[.val (.int p1), .val (.int p2), .val (.int p3), .val (.int p4), .unset, .unset, .unset] [(.int (57344 : Int32)), (.int (6 : Int32)), (.ref a1), (.ref a1)])) _
    refine st28 _ ?_
    show Steps p.tables e below (T28.setTop (mkF m 39 #[.val (.int p1), .val (.int p2), .val (.int p3), .val (.int p4), .unset, .unset, .unset] [(.ref a1)])) _
    refine XS.dup X28.here hx rfl (hb hby at_39) rfl rfl ?_
    show Steps p.tables e below (T28.setTop (mkF m 40 #[.val (.int p1), .val (.int p2), .val (.int p3), .val (.int p4), .unset, .unset, .unset] [(.ref a1), (.ref a1)])) _
    refine XS.bipush X28.here hx rfl (hb hby at_40) ?_
    show Steps p.tables e below (T28.setTop (mkF m 42 #[.val (.int p1), .val (.int p2), .val (.int p3), .val (.int p4), .unset, .unset, .unset] [(.int (7 : Int32)), (.ref a1), (.ref a1)])) _
    refine X28.ldcI hx hown (mvT hZ (hw _ (List.mem_of_getElem? (i := 3) rfl))) rfl (hb hby at_42) ?_
    show Steps p.tables e below (T28.setTop (mkF m 44 #[.val (.int p1), .val (.int p2), .val (.int p3), .val (.int p4), .unset, .unset, .unset] [(.int (65533 : Int32)), (.int (7 : Int32)), (.ref a1), (.ref a1)])) _
    refine st32 _ ?_
    show Steps p.tables e below (T32.setTop (mkF m 45 #[.val (.int p1), .val (.int p2), .val (.int p3), .val (.int p4), .unset, .unset, .unset] [(.ref a1)])) _
    refine XS.dup X32.here hx rfl (hb hby at_45) rfl rfl ?_
    show Steps p.tables e below (T32.setTop (mkF m 46 #[.val (.int p1), .val (.int p2), .val (.int p3), .val (.int p4), .unset, .unset, .unset] [(.ref a1), (.ref a1)])) _
    refine XS.bipush X32.here hx rfl (hb hby at_46) ?_
    show Steps p.tables e below (T32.setTop (mkF m 48 #[.val (.int p1), .val (.int p2), .val (.int p3), .val (.int p4), .unset, .unset, .unset] [(.int (8 : Int32)), (.ref a1), (.ref a1)])) _
    refine X32.ldcI hx hown (mvT hZ (hw _ (List.mem_of_getElem? (i := 4) rfl))) rfl (hb hby at_48) ?_
    show Steps p.tables e below (T32.setTop (mkF m 50 #[.val (.int p1), .val (.int p2), .val (.int p3), .val (.int p4), .unset, .unset, .unset] [(.int (65536 : Int32)), (.int (8 : Int32)), (.ref a1), (.ref a1)])) _
    refine st36 _ ?_
    show Steps p.tables e below (T36.setTop (mkF m 51 #[.val (.int p1), .val (.int p2), .val (.int p3), .val (.int p4), .unset, .unset, .unset] [(.ref a1)])) _
    refine XS.dup X36.here hx rfl (hb hby at_51) rfl rfl ?_
    show Steps p.tables e below (T36.setTop (mkF m 52 #[.val (.int p1), .val (.int p2), .val (.int p3), .val (.int p4), .unset, .unset, .unset] [(.ref a1), (.ref a1)])) _
    refine XS.bipush X36.here hx rfl (hb hby at_52) ?_
    show Steps p.tables e below (T36.setTop (mkF m 54 #[.val (.int p1), .val (.int p2), .val (.int p3), .val (.int p4), .unset, .unset, .unset] [(.int (9 : Int32)), (.ref a1), (.ref a1)])) _
    refine X36.ldcI hx hown (mvT hZ (hw _ (List.mem_of_getElem? (i := 5) rfl))) rfl (hb hby at_54) ?_
    show Steps p.tables e below (T36.setTop (mkF m 56 #[.val (.int p1), .val (.int p2), .val (.int p3), .val (.int p4), .unset, .unset, .unset] [(.int (1114111 : Int32)), (.int (9 : Int32)), (.ref a1), (.ref a1)])) _
    refine st40 _ ?_
    show Steps p.tables e below (T40.setTop (mkF m 57 #[.val (.int p1), .val (.int p2), .val (.int p3), .val (.int p4), .unset, .unset, .unset] [(.ref a1)])) _
    refine XS.dup X40.here hx rfl (hb hby at_57) rfl rfl ?_
    show Steps p.tables e below (T40.setTop (mkF m 58 #[.val (.int p1), .val (.int p2), .val (.int p3), .val (.int p4), .unset, .unset, .unset] [(.ref a1), (.ref a1)])) _
    refine XS.bipush X40.here hx rfl (hb hby at_58) ?_
    show Steps p.tables e below (T40.setTop (mkF m 60 #[.val (.int p1), .val (.int p2), .val (.int p3), .val (.int p4), .unset, .unset, .unset] [(.int (10 : Int32)), (.ref a1), (.ref a1)])) _
    refine X40.ldcI hx hown (mvT hZ (hw _ (List.mem_of_getElem? (i := 6) rfl))) rfl (hb hby at_60) ?_
    show Steps p.tables e below (T40.setTop (mkF m 62 #[.val (.int p1), .val (.int p2), .val (.int p3), .val (.int p4), .unset, .unset, .unset] [(.int (-2147483648 : Int32)), (.int (10 : Int32)), (.ref a1), (.ref a1)])) _
    refine st44 _ ?_
    show Steps p.tables e below (T44.setTop (mkF m 63 #[.val (.int p1), .val (.int p2), .val (.int p3), .val (.int p4), .unset, .unset, .unset] [(.ref a1)])) _
    refine XS.dup X44.here hx rfl (hb hby at_63) rfl rfl ?_
    show Steps p.tables e below (T44.setTop (mkF m 64 #[.val (.int p1), .val (.int p2), .val (.int p3), .val (.int p4), .unset, .unset, .unset] [(.ref a1), (.ref a1)])) _
    refine XS.bipush X44.here hx rfl (hb hby at_64) ?_
    show Steps p.tables e below (T44.setTop (mkF m 66 #[.val (.int p1), .val (.int p2), .val (.int p3), .val (.int p4), .unset, .unset, .unset] [(.int (11 : Int32)), (.ref a1), (.ref a1)])) _
    refine X44.ldcI hx hown (mvT hZ (hw _ (List.mem_of_getElem? (i := 7) rfl))) rfl (hb hby at_66) ?_
    show Steps p.tables e below (T44.setTop (mkF m 68 #[.val (.int p1), .val (.int p2), .val (.int p3), .val (.int p4), .unset, .unset, .unset] [(.int (2147483647 : Int32)), (.int (11 : Int32)), (.ref a1), (.ref a1)])) _
    refine st48 _ ?_
    show Steps p.tables e below (T48.setTop (mkF m 69 #[.val (.int p1), .val (.int p2), .val (.int p3), .val (.int p4), .unset, .unset, .unset] [(.ref a1)])) _
    refine XS.dup X48.here hx rfl (hb hby at_69) rfl rfl ?_
    show Steps p.tables e below (T48.setTop (mkF m 70 #[.val (.int p1), .val (.int p2), .val (.int p3), .val (.int p4), .unset, .unset, .unset] [(.ref a1), (.ref a1)])) _
    refine XS.bipush X48.here hx rfl (hb hby at_70) ?_
    show Steps p.tables e below (T48.setTop (mkF m 72 #[.val (.int p1), .val (.int p2), .val (.int p3), .val (.int p4), .unset, .unset, .unset] [(.int (12 : Int32)), (.ref a1), (.ref a1)])) _
    refine X48.ldcI hx hown (mvT hZ (hw _ (List.mem_of_getElem? (i := 8) rfl))) rfl (hb hby at_72) ?_
    show Steps p.tables e below (T48.setTop (mkF m 74 #[.val (.int p1), .val (.int p2), .val (.int p3), .val (.int p4), .unset, .unset, .unset] [(.int (55296 : Int32)), (.int (12 : Int32)), (.ref a1), (.ref a1)])) _
    refine st52 _ ?_
    show Steps p.tables e below (T52.setTop (mkF m 75 #[.val (.int p1), .val (.int p2), .val (.int p3), .val (.int p4), .unset, .unset, .unset] [(.ref a1)])) _
    refine XS.dup X52.here hx rfl (hb hby at_75) rfl rfl ?_
    show Steps p.tables e below (T52.setTop (mkF m 76 #[.val (.int p1), .val (.int p2), .val (.int p3), .val (.int p4), .unset, .unset, .unset] [(.ref a1), (.ref a1)])) _
    refine XS.bipush X52.here hx rfl (hb hby at_76) ?_
    show Steps p.tables e below (T52.setTop (mkF m 78 #[.val (.int p1), .val (.int p2), .val (.int p3), .val (.int p4), .unset, .unset, .unset] [(.int (13 : Int32)), (.ref a1), (.ref a1)])) _
    refine X52.ldcI hx hown (mvT hZ (hw _ (List.mem_of_getElem? (i := 9) rfl))) rfl (hb hby at_78) ?_
    show Steps p.tables e below (T52.setTop (mkF m 80 #[.val (.int p1), .val (.int p2), .val (.int p3), .val (.int p4), .unset, .unset, .unset] [(.int (57343 : Int32)), (.int (13 : Int32)), (.ref a1), (.ref a1)])) _
    refine st56 _ ?_
    show Steps p.tables e below (T56.setTop (mkF m 81 #[.val (.int p1), .val (.int p2), .val (.int p3), .val (.int p4), .unset, .unset, .unset] [(.ref a1)])) _
    refine XS.dup X56.here hx rfl (hb hby at_81) rfl rfl ?_
    show Steps p.tables e below (T56.setTop (mkF m 82 #[.val (.int p1), .val (.int p2), .val (.int p3), .val (.int p4), .unset, .unset, .unset] [(.ref a1), (.ref a1)])) _
    refine XS.bipush X56.here hx rfl (hb hby at_82) ?_
    show Steps p.tables e below (T56.setTop (mkF m 84 #[.val (.int p1), .val (.int p2), .val (.int p3), .val (.int p4), .unset, .unset, .unset] [(.int (14 : Int32)), (.ref a1), (.ref a1)])) _
    refine X56.ldcI hx hown (mvT hZ (hw _ (List.mem_of_getElem? (i := 10) rfl))) rfl (hb hby at_84) ?_
    show Steps p.tables e below (T56.setTop (mkF m 86 #[.val (.int p1), .val (.int p2), .val (.int p3), .val (.int p4), .unset, .unset, .unset] [(.int (65535 : Int32)), (.int (14 : Int32)), (.ref a1), (.ref a1)])) _
    refine st60 _ ?_
    show Steps p.tables e below (T60.setTop (mkF m 87 #[.val (.int p1), .val (.int p2), .val (.int p3), .val (.int p4), .unset, .unset, .unset] [(.ref a1)])) _
    refine XS.dup X60.here hx rfl (hb hby at_87) rfl rfl ?_
    show Steps p.tables e below (T60.setTop (mkF m 88 #[.val (.int p1), .val (.int p2), .val (.int p3), .val (.int p4), .unset, .unset, .unset] [(.ref a1), (.ref a1)])) _
    refine XS.bipush X60.here hx rfl (hb hby at_88) ?_
    show Steps p.tables e below (T60.setTop (mkF m 90 #[.val (.int p1), .val (.int p2), .val (.int p3), .val (.int p4), .unset, .unset, .unset] [(.int (15 : Int32)), (.ref a1), (.ref a1)])) _
    refine XS.bipush X60.here hx rfl (hb hby at_90) ?_
    show Steps p.tables e below (T60.setTop (mkF m 92 #[.val (.int p1), .val (.int p2), .val (.int p3), .val (.int p4), .unset, .unset, .unset] [(.int (127 : Int32)), (.int (15 : Int32)), (.ref a1), (.ref a1)])) _
    refine st64 _ ?_
    show Steps p.tables e below (T64.setTop (mkF m 93 #[.val (.int p1), .val (.int p2), .val (.int p3), .val (.int p4), .unset, .unset, .unset] [(.ref a1)])) _
    refine XS.astore X64.here hx rfl (hb hby at_93) rfl rfl (l' := #[.val (.int p1), .val (.int p2), .val (.int p3), .val (.int p4), .val (.ref a1), .unset, .unset]) rfl ?_
    show Steps p.tables e below (T64.setTop (mkF m 95 #[.val (.int p1), .val (.int p2), .val (.int p3), .val (.int p4), .val (.ref a1), .unset, .unset] [])) _
    refine XS.iloadN X64.here hx rfl (hb hby at_95) rfl ?_
    show Steps p.tables e below (T64.setTop (mkF m 96 #[.val (.int p1), .val (.int p2), .val (.int p3), .val (.int p4), .val (.ref a1), .unset, .unset] [(.int p4)])) _
    refine X64.ldcI hx hown (mvT hZ (hw _ (List.mem_of_getElem? (i := 7) rfl))) rfl (hb hby at_96) ?_
    show Steps p.tables e below (T64.setTop (mkF m 98 #[.val (.int p1), .val (.int p2), .val (.int p3), .val (.int p4), .val (.ref a1), .unset, .unset] [(.int (2147483647 : Int32)), (.int p4)])) _
    refine XS.iand X64.here hx rfl (hb hby at_98) rfl ?_
    show Steps p.tables e below (T64.setTop (mkF m 99 #[.val (.int p1), .val (.int p2), .val (.int p3), .val (.int p4), .val (.ref a1), .unset, .unset] [(.int (p4 &&& (2147483647 : Int32)))])) _
    refine XS.iconst X64.here hx rfl (hb hby at_99) ?_
    show Steps p.tables e below (T64.setTop (mkF m 100 #[.val (.int p1), .val (.int p2), .val (.int p3), .val (.int p4), .val (.ref a1), .unset, .unset] [(.int (5 : Int32)), (.int (p4 &&& (2147483647 : Int32)))])) _
    refine iremM X64 hx rfl (hb hby at_100) rfl (by decide) ?_
    show Steps p.tables e below (T64.setTop (mkF m 101 #[.val (.int p1), .val (.int p2), .val (.int p3), .val (.int p4), .val (.ref a1), .unset, .unset] [(.int ((p4 &&& (2147483647 : Int32)) % (5 : Int32)))])) _
    refine XS.iconst X64.here hx rfl (hb hby at_101) ?_
    show Steps p.tables e below (T64.setTop (mkF m 102 #[.val (.int p1), .val (.int p2), .val (.int p3), .val (.int p4), .val (.ref a1), .unset, .unset] [(.int (2 : Int32)), (.int ((p4 &&& (2147483647 : Int32)) % (5 : Int32)))])) _
    refine XS.isub X64.here hx rfl (hb hby at_102) rfl ?_
    show Steps p.tables e below (T64.setTop (mkF m 103 #[.val (.int p1), .val (.int p2), .val (.int p3), .val (.int p4), .val (.ref a1), .unset, .unset] [(.int (((p4 &&& (2147483647 : Int32)) % (5 : Int32)) - (2 : Int32)))])) _
    refine XS.istore X64.here hx rfl (hb hby at_103) rfl (l' := #[.val (.int p1), .val (.int p2), .val (.int p3), .val (.int p4), .val (.ref a1), .val (.int (((p4 &&& (2147483647 : Int32)) % (5 : Int32)) - (2 : Int32))), .unset]) rfl ?_
    show Steps p.tables e below (T64.setTop (mkF m 105 #[.val (.int p1), .val (.int p2), .val (.int p3), .val (.int p4), .val (.ref a1), .val (.int (((p4 &&& (2147483647 : Int32)) % (5 : Int32)) - (2 : Int32))), .unset] [])) _
    refine XS.iloadN X64.here hx rfl (hb hby at_105) rfl ?_
    show Steps p.tables e below (T64.setTop (mkF m 106 #[.val (.int p1), .val (.int p2), .val (.int p3), .val (.int p4), .val (.ref a1), .val (.int (((p4 &&& (2147483647 : Int32)) % (5 : Int32)) - (2 : Int32))), .unset] [(.int p2)])) _
    refine XS.iconst X64.here hx rfl (hb hby at_106) ?_
    show Steps p.tables e below (T64.setTop (mkF m 107 #[.val (.int p1), .val (.int p2), .val (.int p3), .val (.int p4), .val (.ref a1), .val (.int (((p4 &&& (2147483647 : Int32)) % (5 : Int32)) - (2 : Int32))), .unset] [(.int (1 : Int32)), (.int p2)])) _
    refine XS.iand X64.here hx rfl (hb hby at_107) rfl ?_
    show Steps p.tables e below (T64.setTop (mkF m 108 #[.val (.int p1), .val (.int p2), .val (.int p3), .val (.int p4), .val (.ref a1), .val (.int (((p4 &&& (2147483647 : Int32)) % (5 : Int32)) - (2 : Int32))), .unset] [(.int (p2 &&& (1 : Int32)))])) _
    exact k
  by_cases hc108 : (p2 &&& (1 : Int32)) = (0 : Int32)
  · obtain ⟨cl67, Ar67, q67, S67, M67, H67, U67⟩ := id V65
    have hi68 : ¬ (p3 &&& (15 : Int32)) < 0 ∧ (p3 &&& (15 : Int32)).toNatClampNeg < (16 : Int32).toNatClampNeg := (own_and15 _)
    obtain ⟨w68, hw68⟩ : ∃ z, z = [(0 : Int32), (9 : Int32), (10 : Int32), (13 : Int32), (32 : Int32), (55295 : Int32), (57344 : Int32), (65533 : Int32), (65536 : Int32), (1114111 : Int32), (-2147483648 : Int32), (2147483647 : Int32), (55296 : Int32), (57343 : Int32), (65535 : Int32), (127 : Int32)].getD (p3 &&& (15 : Int32)).toNatClampNeg (0 : Int32) := ⟨_, rfl⟩
    have ha68 : cl67.slots[(p3 &&& (15 : Int32)).toNatClampNeg]? = some (.int w68) := by rw [hw68]; exact own_has (xs := [(0 : Int32), (9 : Int32), (10 : Int32), (13 : Int32), (32 : Int32), (55295 : Int32), (57344 : Int32), (65533 : Int32), (65536 : Int32), (1114111 : Int32), (-2147483648 : Int32), (2147483647 : Int32), (55296 : Int32), (57343 : Int32), (65535 : Int32), (127 : Int32)]) H67 S67 _ hi68.2
    obtain ⟨_, _, ⟨T69, uL69, uk69, un69⟩, -, X69, ⟨Lc69, hQ69, ul69, uy69, uz69⟩, st69⟩ := Jvm.LawKit.callS X64 hx (y := (⟨"com/example/kdata/kdata/XmlChars", "isChar", "(I)Z"⟩ : MethodName)) hown (mvT hZ (hw _ (List.mem_of_getElem? (i := 11) rfl))) (mvT hZ (hw _ (List.mem_of_getElem? (i := 12) rfl))) (mvT hZ (hw _ (List.mem_of_getElem? (i := 13) rfl))) (mvT hZ (hw _ (List.mem_of_getElem? (i := 14) rfl))) (by decide) (backOf (W := 0) (rm1 l Z a0 hw [] (w68 + (((p4 &&& (2147483647 : Int32)) % (5 : Int32)) - (2 : Int32))) h64 n0 Z64 ) hZ (hw _ (List.mem_of_getElem? (i := 14) rfl)) (hw _ (List.mem_of_getElem? (i := 13) rfl)) (by decide) (by decide)) (g := (mkF m 131 #[.val (.int p1), .val (.int p2), .val (.int p3), .val (.int p4), .val (.ref a1), .val (.int (((p4 &&& (2147483647 : Int32)) % (5 : Int32)) - (2 : Int32))), .val (.int (w68 + (((p4 &&& (2147483647 : Int32)) % (5 : Int32)) - (2 : Int32))))] [(.int (w68 + (((p4 &&& (2147483647 : Int32)) % (5 : Int32)) - (2 : Int32))))])) rfl (by rw [hml]; rfl) (argsL := [(.int (w68 + (((p4 &&& (2147483647 : Int32)) % (5 : Int32)) - (2 : Int32))))]) (rest := []) (lenOf pd__28I_29Z rfl) rfl (by show 2 * 0 + _ ≤ _; exact Nat.le_of_eq rfl) (hb hby at_131) (fun _ _ => ⟨rfl, e64, (by decide : 1 + 0 ≤ _), (by decide : 16 + 0 ≤ _)⟩)
    dsimp only [Pt.U, Pt.locs, Pt.cells, Pt.slots] at X69 ul69 uy69 uz69 st69 hQ69
    subst ul69 uy69 uz69
    obtain ⟨rfl, Nq69, e69⟩ := hQ69
    have N69 := Fr.app N64 Nq69
    obtain ⟨_, _, ⟨T70, uL70, uk70, un70⟩, -, X70, ⟨Lc70, hQ70, ul70, uy70, uz70⟩, st70⟩ := Jvm.LawKit.callS X69 hx (y := (⟨"com/example/kdata/kdata/XmlCharsIsCharPinLaw", "expected", "(I)Z"⟩ : MethodName)) hown (mvT hZ (hw _ (List.mem_of_getElem? (i := 15) rfl))) (mvT hZ (hw _ (List.mem_of_getElem? (i := 16) rfl))) (mvT hZ (hw _ (List.mem_of_getElem? (i := 17) rfl))) (mvT hZ (hw _ (List.mem_of_getElem? (i := 18) rfl))) (by decide) (backOf (W := 1) (rm2 l Z a0 hw [] (w68 + (((p4 &&& (2147483647 : Int32)) % (5 : Int32)) - (2 : Int32))) h64 n0 Z64 ) hZ (hw _ (List.mem_of_getElem? (i := 18) rfl)) (hw _ (List.mem_of_getElem? (i := 17) rfl)) (by decide) (by decide)) (g := (mkF m 136 #[.val (.int p1), .val (.int p2), .val (.int p3), .val (.int p4), .val (.ref a1), .val (.int (((p4 &&& (2147483647 : Int32)) % (5 : Int32)) - (2 : Int32))), .val (.int (w68 + (((p4 &&& (2147483647 : Int32)) % (5 : Int32)) - (2 : Int32))))] [(.int (w68 + (((p4 &&& (2147483647 : Int32)) % (5 : Int32)) - (2 : Int32)))), (.int (own_isChar_0 (w68 + (((p4 &&& (2147483647 : Int32)) % (5 : Int32)) - (2 : Int32)))))])) rfl (by rw [hml]; rfl) (argsL := [(.int (w68 + (((p4 &&& (2147483647 : Int32)) % (5 : Int32)) - (2 : Int32))))]) (rest := [(.int (own_isChar_0 (w68 + (((p4 &&& (2147483647 : Int32)) % (5 : Int32)) - (2 : Int32)))))]) (lenOf pd__28I_29Z rfl) rfl (by show 2 * 0 + _ ≤ _; exact Nat.le_of_eq rfl) (hb hby at_136) (fun _ _ => ⟨rfl, e69, (by decide : 1 + 0 ≤ _), (by decide : 16 + 0 ≤ _)⟩)
    dsimp only [Pt.U, Pt.locs, Pt.cells, Pt.slots] at X70 ul70 uy70 uz70 st70 hQ70
    subst ul70 uy70 uz70
    obtain ⟨rfl, Nq70, e70⟩ := hQ70
    have N70 := Fr.app N69 Nq70
    have hc139_71 : (own_isChar_0 (w68 + (((p4 &&& (2147483647 : Int32)) % (5 : Int32)) - (2 : Int32)))) = (own_expd_0 (w68 + (((p4 &&& (2147483647 : Int32)) % (5 : Int32)) - (2 : Int32)))) := own_same _
    refine own_end X70 Bd.notSynchronized (v := some (.int (1 : Int32))) (fun h => by rw [Bd.returns] at h; cases h) (fun fs hr => ?_) e70 ?_ (by decide) (by decide)
    · show Steps p.tables e below (T64.setTop (mkF m 108 #[.val (.int p1), .val (.int p2), .val (.int p3), .val (.int p4), .val (.ref a1), .val (.int (((p4 &&& (2147483647 : Int32)) % (5 : Int32)) - (2 : Int32))), .unset] [(.int (p2 &&& (1 : Int32)))])) _
      refine XS.ifYes X64.here hx rfl (pc0 := 108) (pc' := 117) rfl (hb hby at_108) rfl ((if0 _ _).trans (teq hc108).1) (by decide) (by decide) ?_
      show Steps p.tables e below (T64.setTop (mkF m 117 #[.val (.int p1), .val (.int p2), .val (.int p3), .val (.int p4), .val (.ref a1), .val (.int (((p4 &&& (2147483647 : Int32)) % (5 : Int32)) - (2 : Int32))), .unset] [])) _
      refine XS.aload X64.here hx rfl (hb hby at_117) rfl rfl ?_
      show Steps p.tables e below (T64.setTop (mkF m 119 #[.val (.int p1), .val (.int p2), .val (.int p3), .val (.int p4), .val (.ref a1), .val (.int (((p4 &&& (2147483647 : Int32)) % (5 : Int32)) - (2 : Int32))), .unset] [(.ref a1)])) _
      refine XS.iloadN X64.here hx rfl (hb hby at_119) rfl ?_
      show Steps p.tables e below (T64.setTop (mkF m 120 #[.val (.int p1), .val (.int p2), .val (.int p3), .val (.int p4), .val (.ref a1), .val (.int (((p4 &&& (2147483647 : Int32)) % (5 : Int32)) - (2 : Int32))), .unset] [(.int p3), (.ref a1)])) _
      refine XS.bipush X64.here hx rfl (hb hby at_120) ?_
      show Steps p.tables e below (T64.setTop (mkF m 122 #[.val (.int p1), .val (.int p2), .val (.int p3), .val (.int p4), .val (.ref a1), .val (.int (((p4 &&& (2147483647 : Int32)) % (5 : Int32)) - (2 : Int32))), .unset] [(.int (15 : Int32)), (.int p3), (.ref a1)])) _
      refine XS.iand X64.here hx rfl (hb hby at_122) rfl ?_
      show Steps p.tables e below (T64.setTop (mkF m 123 #[.val (.int p1), .val (.int p2), .val (.int p3), .val (.int p4), .val (.ref a1), .val (.int (((p4 &&& (2147483647 : Int32)) % (5 : Int32)) - (2 : Int32))), .unset] [(.int (p3 &&& (15 : Int32))), (.ref a1)])) _
      refine X64.iaload hx (j := (p3 &&& (15 : Int32))) (v := (.int w68)) (by rw [e64]; exact Ar67.1) (State.isArrayOf_alike hZ.alike Ar67.2.1) Ar67.2.2 (own_hin S67 hi68) ha68 (g := (mkF m 123 #[.val (.int p1), .val (.int p2), .val (.int p3), .val (.int p4), .val (.ref a1), .val (.int (((p4 &&& (2147483647 : Int32)) % (5 : Int32)) - (2 : Int32))), .unset] [(.int (p3 &&& (15 : Int32))), (.ref a1)])) rfl rfl (hb hby at_123) _ ?_
      show Steps p.tables e below (T64.setTop (mkF m 124 #[.val (.int p1), .val (.int p2), .val (.int p3), .val (.int p4), .val (.ref a1), .val (.int (((p4 &&& (2147483647 : Int32)) % (5 : Int32)) - (2 : Int32))), .unset] [(.int w68)])) _
      refine XS.iload X64.here hx rfl (hb hby at_124) rfl ?_
      show Steps p.tables e below (T64.setTop (mkF m 126 #[.val (.int p1), .val (.int p2), .val (.int p3), .val (.int p4), .val (.ref a1), .val (.int (((p4 &&& (2147483647 : Int32)) % (5 : Int32)) - (2 : Int32))), .unset] [(.int (((p4 &&& (2147483647 : Int32)) % (5 : Int32)) - (2 : Int32))), (.int w68)])) _
      refine XS.iadd X64.here hx rfl (hb hby at_126) rfl ?_
      show Steps p.tables e below (T64.setTop (mkF m 127 #[.val (.int p1), .val (.int p2), .val (.int p3), .val (.int p4), .val (.ref a1), .val (.int (((p4 &&& (2147483647 : Int32)) % (5 : Int32)) - (2 : Int32))), .unset] [(.int (w68 + (((p4 &&& (2147483647 : Int32)) % (5 : Int32)) - (2 : Int32))))])) _
      refine XS.istore X64.here hx rfl (hb hby at_127) rfl (l' := #[.val (.int p1), .val (.int p2), .val (.int p3), .val (.int p4), .val (.ref a1), .val (.int (((p4 &&& (2147483647 : Int32)) % (5 : Int32)) - (2 : Int32))), .val (.int (w68 + (((p4 &&& (2147483647 : Int32)) % (5 : Int32)) - (2 : Int32))))]) rfl ?_
      show Steps p.tables e below (T64.setTop (mkF m 129 #[.val (.int p1), .val (.int p2), .val (.int p3), .val (.int p4), .val (.ref a1), .val (.int (((p4 &&& (2147483647 : Int32)) % (5 : Int32)) - (2 : Int32))), .val (.int (w68 + (((p4 &&& (2147483647 : Int32)) % (5 : Int32)) - (2 : Int32))))] [])) _
      refine XS.iload X64.here hx rfl (hb hby at_129) rfl ?_
      show Steps p.tables e below (T64.setTop (mkF m 131 #[.val (.int p1), .val (.int p2), .val (.int p3), .val (.int p4), .val (.ref a1), .val (.int (((p4 &&& (2147483647 : Int32)) % (5 : Int32)) - (2 : Int32))), .val (.int (w68 + (((p4 &&& (2147483647 : Int32)) % (5 : Int32)) - (2 : Int32))))] [(.int (w68 + (((p4 &&& (2147483647 : Int32)) % (5 : Int32)) - (2 : Int32))))])) _
      refine st69 _ ?_
      show Steps p.tables e below (T69.setTop (mkF m 134 #[.val (.int p1), .val (.int p2), .val (.int p3), .val (.int p4), .val (.ref a1), .val (.int (((p4 &&& (2147483647 : Int32)) % (5 : Int32)) - (2 : Int32))), .val (.int (w68 + (((p4 &&& (2147483647 : Int32)) % (5 : Int32)) - (2 : Int32))))] [(.int (own_isChar_0 (w68 + (((p4 &&& (2147483647 : Int32)) % (5 : Int32)) - (2 : Int32)))))])) _
      refine XS.iload X69.here hx rfl (hb hby at_134) rfl ?_
      show Steps p.tables e below (T69.setTop (mkF m 136 #[.val (.int p1), .val (.int p2), .val (.int p3), .val (.int p4), .val (.ref a1), .val (.int (((p4 &&& (2147483647 : Int32)) % (5 : Int32)) - (2 : Int32))), .val (.int (w68 + (((p4 &&& (2147483647 : Int32)) % (5 : Int32)) - (2 : Int32))))] [(.int (w68 + (((p4 &&& (2147483647 : Int32)) % (5 : Int32)) - (2 : Int32)))), (.int (own_isChar_0 (w68 + (((p4 &&& (2147483647 : Int32)) % (5 : Int32)) - (2 : Int32)))))])) _
      refine st70 _ ?_
      show Steps p.tables e below (T70.setTop (mkF m 139 #[.val (.int p1), .val (.int p2), .val (.int p3), .val (.int p4), .val (.ref a1), .val (.int (((p4 &&& (2147483647 : Int32)) % (5 : Int32)) - (2 : Int32))), .val (.int (w68 + (((p4 &&& (2147483647 : Int32)) % (5 : Int32)) - (2 : Int32))))] [(.int (own_expd_0 (w68 + (((p4 &&& (2147483647 : Int32)) % (5 : Int32)) - (2 : Int32))))), (.int (own_isChar_0 (w68 + (((p4 &&& (2147483647 : Int32)) % (5 : Int32)) - (2 : Int32)))))])) _
      refine XS.icmpNo X70.here hx rfl (hb hby at_139) rfl (teq hc139_71).2 ?_
      show Steps p.tables e below (T70.setTop (mkF m 142 #[.val (.int p1), .val (.int p2), .val (.int p3), .val (.int p4), .val (.ref a1), .val (.int (((p4 &&& (2147483647 : Int32)) % (5 : Int32)) - (2 : Int32))), .val (.int (w68 + (((p4 &&& (2147483647 : Int32)) % (5 : Int32)) - (2 : Int32))))] [])) _
      refine XS.iconst X70.here hx rfl (hb hby at_142) ?_
      show Steps p.tables e below (T70.setTop (mkF m 143 #[.val (.int p1), .val (.int p2), .val (.int p3), .val (.int p4), .val (.ref a1), .val (.int (((p4 &&& (2147483647 : Int32)) % (5 : Int32)) - (2 : Int32))), .val (.int (w68 + (((p4 &&& (2147483647 : Int32)) % (5 : Int32)) - (2 : Int32))))] [(.int (1 : Int32))])) _
      refine XS.goto X70.here hx rfl (pc0 := 143) (pc' := 147) rfl (hb hby at_143) (by decide) (by decide) ?_
      show Steps p.tables e below (T70.setTop (mkF m 147 #[.val (.int p1), .val (.int p2), .val (.int p3), .val (.int p4), .val (.ref a1), .val (.int (((p4 &&& (2147483647 : Int32)) % (5 : Int32)) - (2 : Int32))), .val (.int (w68 + (((p4 &&& (2147483647 : Int32)) % (5 : Int32)) - (2 : Int32))))] [(.int (1 : Int32))])) _
      exact retN X70 hx (t := .boolean) Bd.returns (by simp) (hb hby at_147) hr
    · exact ⟨rfl, N70⟩
  · obtain ⟨_, _, ⟨T72, uL72, uk72, un72⟩, -, X72, ⟨Lc72, hQ72, ul72, uy72, uz72⟩, st72⟩ := Jvm.LawKit.callS X64 hx (y := (⟨"com/example/kdata/kdata/XmlChars", "isChar", "(I)Z"⟩ : MethodName)) hown (mvT hZ (hw _ (List.mem_of_getElem? (i := 11) rfl))) (mvT hZ (hw _ (List.mem_of_getElem? (i := 12) rfl))) (mvT hZ (hw _ (List.mem_of_getElem? (i := 13) rfl))) (mvT hZ (hw _ (List.mem_of_getElem? (i := 14) rfl))) (by decide) (backOf (W := 0) (rm1 l Z a0 hw [] p1 h64 n0 Z64 ) hZ (hw _ (List.mem_of_getElem? (i := 14) rfl)) (hw _ (List.mem_of_getElem? (i := 13) rfl)) (by decide) (by decide)) (g := (mkF m 131 #[.val (.int p1), .val (.int p2), .val (.int p3), .val (.int p4), .val (.ref a1), .val (.int (((p4 &&& (2147483647 : Int32)) % (5 : Int32)) - (2 : Int32))), .val (.int p1)] [(.int p1)])) rfl (by rw [hml]; rfl) (argsL := [(.int p1)]) (rest := []) (lenOf pd__28I_29Z rfl) rfl (by show 2 * 0 + _ ≤ _; exact Nat.le_of_eq rfl) (hb hby at_131) (fun _ _ => ⟨rfl, e64, (by decide : 1 + 0 ≤ _), (by decide : 16 + 0 ≤ _)⟩)
    dsimp only [Pt.U, Pt.locs, Pt.cells, Pt.slots] at X72 ul72 uy72 uz72 st72 hQ72
    subst ul72 uy72 uz72
    obtain ⟨rfl, Nq72, e72⟩ := hQ72
    have N72 := Fr.app N64 Nq72
    obtain ⟨_, _, ⟨T73, uL73, uk73, un73⟩, -, X73, ⟨Lc73, hQ73, ul73, uy73, uz73⟩, st73⟩ := Jvm.LawKit.callS X72 hx (y := (⟨"com/example/kdata/kdata/XmlCharsIsCharPinLaw", "expected", "(I)Z"⟩ : MethodName)) hown (mvT hZ (hw _ (List.mem_of_getElem? (i := 15) rfl))) (mvT hZ (hw _ (List.mem_of_getElem? (i := 16) rfl))) (mvT hZ (hw _ (List.mem_of_getElem? (i := 17) rfl))) (mvT hZ (hw _ (List.mem_of_getElem? (i := 18) rfl))) (by decide) (backOf (W := 1) (rm2 l Z a0 hw [] p1 h64 n0 Z64 ) hZ (hw _ (List.mem_of_getElem? (i := 18) rfl)) (hw _ (List.mem_of_getElem? (i := 17) rfl)) (by decide) (by decide)) (g := (mkF m 136 #[.val (.int p1), .val (.int p2), .val (.int p3), .val (.int p4), .val (.ref a1), .val (.int (((p4 &&& (2147483647 : Int32)) % (5 : Int32)) - (2 : Int32))), .val (.int p1)] [(.int p1), (.int (own_isChar_0 p1))])) rfl (by rw [hml]; rfl) (argsL := [(.int p1)]) (rest := [(.int (own_isChar_0 p1))]) (lenOf pd__28I_29Z rfl) rfl (by show 2 * 0 + _ ≤ _; exact Nat.le_of_eq rfl) (hb hby at_136) (fun _ _ => ⟨rfl, e72, (by decide : 1 + 0 ≤ _), (by decide : 16 + 0 ≤ _)⟩)
    dsimp only [Pt.U, Pt.locs, Pt.cells, Pt.slots] at X73 ul73 uy73 uz73 st73 hQ73
    subst ul73 uy73 uz73
    obtain ⟨rfl, Nq73, e73⟩ := hQ73
    have N73 := Fr.app N72 Nq73
    have hc139_74 : (own_isChar_0 p1) = (own_expd_0 p1) := own_same _
    refine own_end X73 Bd.notSynchronized (v := some (.int (1 : Int32))) (fun h => by rw [Bd.returns] at h; cases h) (fun fs hr => ?_) e73 ?_ (by decide) (by decide)
    · show Steps p.tables e below (T64.setTop (mkF m 108 #[.val (.int p1), .val (.int p2), .val (.int p3), .val (.int p4), .val (.ref a1), .val (.int (((p4 &&& (2147483647 : Int32)) % (5 : Int32)) - (2 : Int32))), .unset] [(.int (p2 &&& (1 : Int32)))])) _
      refine XS.ifNo X64.here hx rfl (hb hby at_108) rfl ((if0 _ _).trans (feq hc108).1) ?_
      show Steps p.tables e below (T64.setTop (mkF m 111 #[.val (.int p1), .val (.int p2), .val (.int p3), .val (.int p4), .val (.ref a1), .val (.int (((p4 &&& (2147483647 : Int32)) % (5 : Int32)) - (2 : Int32))), .unset] [])) _
      refine XS.iloadN X64.here hx rfl (hb hby at_111) rfl ?_
      show Steps p.tables e below (T64.setTop (mkF m 112 #[.val (.int p1), .val (.int p2), .val (.int p3), .val (.int p4), .val (.ref a1), .val (.int (((p4 &&& (2147483647 : Int32)) % (5 : Int32)) - (2 : Int32))), .unset] [(.int p1)])) _
      refine XS.istore X64.here hx rfl (hb hby at_112) rfl (l' := #[.val (.int p1), .val (.int p2), .val (.int p3), .val (.int p4), .val (.ref a1), .val (.int (((p4 &&& (2147483647 : Int32)) % (5 : Int32)) - (2 : Int32))), .val (.int p1)]) rfl ?_
      show Steps p.tables e below (T64.setTop (mkF m 114 #[.val (.int p1), .val (.int p2), .val (.int p3), .val (.int p4), .val (.ref a1), .val (.int (((p4 &&& (2147483647 : Int32)) % (5 : Int32)) - (2 : Int32))), .val (.int p1)] [])) _
      refine XS.goto X64.here hx rfl (pc0 := 114) (pc' := 129) rfl (hb hby at_114) (by decide) (by decide) ?_
      show Steps p.tables e below (T64.setTop (mkF m 129 #[.val (.int p1), .val (.int p2), .val (.int p3), .val (.int p4), .val (.ref a1), .val (.int (((p4 &&& (2147483647 : Int32)) % (5 : Int32)) - (2 : Int32))), .val (.int p1)] [])) _
      refine XS.iload X64.here hx rfl (hb hby at_129) rfl ?_
      show Steps p.tables e below (T64.setTop (mkF m 131 #[.val (.int p1), .val (.int p2), .val (.int p3), .val (.int p4), .val (.ref a1), .val (.int (((p4 &&& (2147483647 : Int32)) % (5 : Int32)) - (2 : Int32))), .val (.int p1)] [(.int p1)])) _
      refine st72 _ ?_
      show Steps p.tables e below (T72.setTop (mkF m 134 #[.val (.int p1), .val (.int p2), .val (.int p3), .val (.int p4), .val (.ref a1), .val (.int (((p4 &&& (2147483647 : Int32)) % (5 : Int32)) - (2 : Int32))), .val (.int p1)] [(.int (own_isChar_0 p1))])) _
      refine XS.iload X72.here hx rfl (hb hby at_134) rfl ?_
      show Steps p.tables e below (T72.setTop (mkF m 136 #[.val (.int p1), .val (.int p2), .val (.int p3), .val (.int p4), .val (.ref a1), .val (.int (((p4 &&& (2147483647 : Int32)) % (5 : Int32)) - (2 : Int32))), .val (.int p1)] [(.int p1), (.int (own_isChar_0 p1))])) _
      refine st73 _ ?_
      show Steps p.tables e below (T73.setTop (mkF m 139 #[.val (.int p1), .val (.int p2), .val (.int p3), .val (.int p4), .val (.ref a1), .val (.int (((p4 &&& (2147483647 : Int32)) % (5 : Int32)) - (2 : Int32))), .val (.int p1)] [(.int (own_expd_0 p1)), (.int (own_isChar_0 p1))])) _
      refine XS.icmpNo X73.here hx rfl (hb hby at_139) rfl (teq hc139_74).2 ?_
      show Steps p.tables e below (T73.setTop (mkF m 142 #[.val (.int p1), .val (.int p2), .val (.int p3), .val (.int p4), .val (.ref a1), .val (.int (((p4 &&& (2147483647 : Int32)) % (5 : Int32)) - (2 : Int32))), .val (.int p1)] [])) _
      refine XS.iconst X73.here hx rfl (hb hby at_142) ?_
      show Steps p.tables e below (T73.setTop (mkF m 143 #[.val (.int p1), .val (.int p2), .val (.int p3), .val (.int p4), .val (.ref a1), .val (.int (((p4 &&& (2147483647 : Int32)) % (5 : Int32)) - (2 : Int32))), .val (.int p1)] [(.int (1 : Int32))])) _
      refine XS.goto X73.here hx rfl (pc0 := 143) (pc' := 147) rfl (hb hby at_143) (by decide) (by decide) ?_
      show Steps p.tables e below (T73.setTop (mkF m 147 #[.val (.int p1), .val (.int p2), .val (.int p3), .val (.int p4), .val (.ref a1), .val (.int (((p4 &&& (2147483647 : Int32)) % (5 : Int32)) - (2 : Int32))), .val (.int p1)] [(.int (1 : Int32))])) _
      exact retN X73 hx (t := .boolean) Bd.returns (by simp) (hb hby at_147) hr
    · exact ⟨rfl, N73⟩
set_option maxRecDepth 65536 in
set_option maxHeartbeats 40000000 in
theorem comes_1 {Post : Tables → Env → Array Value → State → Outcome → State → Prop} (hpost : ∀ tb e args s v u, (limb_1_1.after args s (.returned v) u = true ∧ limb_1_2.after args s (.returned v) u = true ∧ True) → FrameEnd s (.returned v) u (Jvm.fieldLocs frame_1_writes args s ++ Jvm.arrayLocs frame_1_arrays args s ++ Jvm.staticLocs frame_1_statics s) 16 128 → Post tb e args s (.returned v) u) :
    ArmFor flags0 classFile x code maxLocals ret World_1 tables_1 room_1 Calls_1 rest_1 Pre_1 Post := by
  intro l hfl _ _ p e ha hc hk s m args below hf hA hF happ hP
  obtain ⟨hcalls, hrest, hpre⟩ := hP
  obtain ⟨-, -, -, hnamed, -, -, -, hat⟩ := (Spec.applies_iff hf).mp happ
  obtain ⟨hg, hn⟩ := and_e (Cond.before_iff.mp (show (Jvm.Cond.and given_1 narrow_1).before args s = true from hpre))
  obtain ⟨g0, r0⟩ := and_e hg
  obtain ⟨g1, r1⟩ := and_e r0
  obtain ⟨g2, r2⟩ := and_e r1
  obtain ⟨g3, r3⟩ := and_e r2
  obtain ⟨w0, w1, w2, w3, rfl⟩ : ∃ w0 w1 w2 w3 : Value, args = #[w0, w1, w2, w3] := by
    have hs : args.size = 4 := by simpa [Cond.value, given_1] using g0
    obtain ⟨L⟩ := args
    match L, hs with
    | [w0, w1, w2, w3], _ => exact ⟨w0, w1, w2, w3, rfl⟩
  have hw := fun d (hd : d ∈ tables_1) => atoms_spec (ws := Jvm.Cond.code x code maxLocals ret :: tables_1) hat d (List.mem_cons_of_mem _ hd)
  obtain ⟨i0, y0⟩ := is_v g1
  obtain rfl : w0 = (.int i0) := Option.some.inj y0
  obtain ⟨i1, y1⟩ := is_v g2
  obtain rfl : w1 = (.int i1) := Option.some.inj y1
  obtain ⟨i2, y2⟩ := is_v g3
  obtain rfl : w2 = (.int i2) := Option.some.inj y2
  obtain ⟨i3, y3⟩ := is_v r3
  obtain rfl : w3 = (.int i3) := Option.some.inj y3
  obtain ⟨n, o, h1, h2, h3, _, L, rfl, ⟨rfl, N⟩, hq⟩ := rm0 l s _ hw tables_1 i0 i1 i2 i3 s.heap s.heap.size (Nat.le_refl _) p e ha hc hk s m _ below hf ((Spec.applies_iff_loose hf).mp happ).1 ⟨rfl, State.Warmed39.refl s, rfl⟩ trivial
  refine ⟨n, _, h1, h2, h3, hpost _ _ _ _ _ _ ⟨Cond.after_iff.mpr rfl, Cond.after_iff.mpr (eq_i res_at (Term.int_eval (1)) rfl), trivial⟩ ⟨hq.1, hq.2.1, (hq.2.2.sift fun y hy => Or.inr (N y hy)).mono (by decide) (by decide)⟩⟩
theorem main_1_1 : Claimed_1_1 := comes_1 fun _ _ _ _ _ _ h hF => ⟨h.1, hF⟩
theorem main_1_2 : Claimed_1_2 := comes_1 fun _ _ _ _ _ _ h hF => ⟨h.2.1, hF⟩
end Jvm.Pilot.@@N@@
namespace Jvm.Pilot.@@N@@
open Jvm Jvm.ClassFile Sem Op Lib Jvm.Free Jvm.Stand Jvm.Pilot.@@N@@.Jvm.D
/-! MADE BY PROGRAM (witnessworld.py) out of the Statement's table words and the real class files: 9 classes; the members and pool entries that the words name. The judged class is class 1, her method 2. -/
namespace start1
open Jvm.ClassFile
def u (s : String) : CpInfo := .utf8 (stringToUtf16 s)
/-- a pool by its gaps: so many unusable entries, then the entry; so many at the end -/
def gap : Nat → List CpInfo → List CpInfo
  | 0, r => r
  | n + 1, r => .unusable :: gap n r
def poolList (es : List (Nat × CpInfo)) (last : Nat) : List CpInfo := es.foldr (fun e r => gap e.1 (e.2 :: r)) (gap last [])
def pool (es : List (Nat × CpInfo)) (last : Nat) : Array CpInfo := ⟨poolList es last⟩
def fileOf (pool : Array CpInfo) (this : Nat) (attrs : Array Attribute := #[]) (ms : Array MethodInfo := #[]) (fl : Nat := 33) (sup : Nat := 0) (ifs : Array Nat := #[]) (fds : Array FieldInfo := #[]) : ClassFile where
  minorVersion := 0
  majorVersion := 65
  constantPool := pool
  accessFlags := fl
  thisClass := this
  superClass := sup
  interfaces := ifs
  fields := fds
  methods := ms
  attributes := attrs
def plain (name : String) (sup : Option ClassId) : Class where
  name := name
  kind := .ordinary
  loader := none
  accessFlags := 33
  super := sup
  interfaces := #[]
  cf := none
  fields := #[]
  methods := #[]
  instanceTypes := #[]
  staticTypes := #[]
  resolved := #[]
  callSites := []
  init := .initialized
  statics := none
  mirror := none

def pool0 : Array CpInfo := pool [(5, u "<init>"), (0, u "()V"), (1, .class_ 10), (1, u "java/lang/Object")] 113

def k0m0 : Method := { name := "<init>", desc := "()V", sig := { parameters := [], returnType := none }, accessFlags := 1, code := none }
/-- java/lang/Object -/
def k0 : Class := { plain "java/lang/Object" none with
  accessFlags := 33
  interfaces := #[]
  cf := some (fileOf pool0 8 #[] #[{ accessFlags := 1, nameIndex := 5, descriptorIndex := 6, attributes := #[] }] 33 0 #[] #[])
  fields := #[]
  methods := #[k0m0]
  instanceTypes := #[]
  staticTypes := #[]
  resolved := Array.replicate 124 none
  statics := none }

def pool1 : Array CpInfo := pool [(2, .class_ 4), (1, u "java/lang/Object"), (0, u "<init>"), (0, u "()V"), (0, .integer 55295), (0, .integer 57344), (0, .integer 65533), (0, .integer 65536), (0, .integer 1114111), (2, .integer 2147483648), (0, .integer 2147483647), (0, .integer 55296), (0, .integer 57343), (0, .integer 65535), (0, .methodref 20 21), (0, .class_ 22), (0, .nameAndType 23 24), (0, u "com/example/kdata/kdata/XmlChars"), (0, u "isChar"), (0, u "(I)Z"), (0, .methodref 26 27), (0, .class_ 28), (0, .nameAndType 29 24), (0, u "com/example/kdata/kdata/XmlCharsIsCharPinLaw"), (0, u "expected"), (3, u "law"), (0, u "(IIII)Z")] 4

def k1m0 : Method := { name := "<init>", desc := "()V", sig := { parameters := [], returnType := none }, accessFlags := 2, code := none }
def k1c1 : Code := { maxStack := 2, maxLocals := 1, code := method_2_code, exceptionTable := #[], attributes := #[] }
def k1m1 : Method := { name := "expected", desc := "(I)Z", sig := { parameters := [.int], returnType := some .boolean }, accessFlags := 10, code := some k1c1 }
def k1c2 : Code := { maxStack := 4, maxLocals := 7, code := code, exceptionTable := #[], attributes := #[] }
def k1m2 : Method := { name := "law", desc := "(IIII)Z", sig := { parameters := [.int, .int, .int, .int], returnType := some .boolean }, accessFlags := 9, code := some k1c2 }
/-- com/example/kdata/kdata/XmlCharsIsCharPinLaw -/
def k1 : Class := { plain "com/example/kdata/kdata/XmlCharsIsCharPinLaw" (some 0) with
  accessFlags := 49
  interfaces := #[]
  cf := some (fileOf pool1 26 #[] #[{ accessFlags := 2, nameIndex := 5, descriptorIndex := 6, attributes := #[] }, { accessFlags := 10, nameIndex := 29, descriptorIndex := 24, attributes := #[] }, { accessFlags := 9, nameIndex := 33, descriptorIndex := 34, attributes := #[] }] 49 2 #[] #[])
  fields := #[]
  methods := #[k1m0, k1m1, k1m2]
  instanceTypes := #[]
  staticTypes := #[]
  resolved := Array.replicate 39 none
  statics := none }

def pool2 : Array CpInfo := pool [(2, .class_ 4), (1, u "java/lang/Object"), (0, u "<init>"), (0, u "()V"), (1, .class_ 10), (1, u "com/example/kdata/kdata/XmlChars"), (0, u "ASCII_NAME_START"), (0, u "[Z"), (2, u "ASCII_NAME"), (0, .integer 55295), (0, .integer 57344), (0, .integer 65533), (0, .integer 65536), (0, .integer 1114111), (7, u "(I)Z"), (64, u "isChar")] 16

def k2m0 : Method := { name := "<init>", desc := "()V", sig := { parameters := [], returnType := none }, accessFlags := 2, code := none }
def k2c1 : Code := { maxStack := 2, maxLocals := 1, code := prog_134_method_5_code, exceptionTable := #[], attributes := #[] }
def k2m1 : Method := { name := "isChar", desc := "(I)Z", sig := { parameters := [.int], returnType := some .boolean }, accessFlags := 9, code := some k2c1 }
/-- com/example/kdata/kdata/XmlChars -/
def k2 : Class := { plain "com/example/kdata/kdata/XmlChars" (some 0) with
  accessFlags := 49
  interfaces := #[]
  cf := some (fileOf pool2 8 #[] #[{ accessFlags := 2, nameIndex := 5, descriptorIndex := 6, attributes := #[] }, { accessFlags := 9, nameIndex := 93, descriptorIndex := 28, attributes := #[] }] 49 2 #[] #[{ accessFlags := 26, nameIndex := 11, descriptorIndex := 12, attributes := #[] }, { accessFlags := 26, nameIndex := 15, descriptorIndex := 12, attributes := #[] }])
  fields := #[{ name := "ASCII_NAME_START", type := (.array .boolean), accessFlags := 26, slot := 0, constantValue := 0 }, { name := "ASCII_NAME", type := (.array .boolean), accessFlags := 26, slot := 1, constantValue := 0 }]
  methods := #[k2m0, k2m1]
  instanceTypes := #[]
  staticTypes := #[(.array .boolean), (.array .boolean)]
  resolved := Array.replicate 110 none
  statics := none }

def pool3 : Array CpInfo := pool [(1, u "java/lang/Cloneable"), (0, .class_ 1), (0, u "java/lang/Object"), (0, .class_ 3)] 3

/-- java/lang/Cloneable -/
def k3 : Class := { plain "java/lang/Cloneable" (some 0) with
  accessFlags := 1537
  interfaces := #[]
  cf := some (fileOf pool3 2 #[] #[] 1537 4 #[] #[])
  fields := #[]
  methods := #[]
  instanceTypes := #[]
  staticTypes := #[]
  resolved := Array.replicate 8 none
  statics := none }

def pool4 : Array CpInfo := pool [(1, u "java/io/Serializable"), (0, .class_ 1), (0, u "java/lang/Object"), (0, .class_ 3)] 3

/-- java/io/Serializable -/
def k4 : Class := { plain "java/io/Serializable" (some 0) with
  accessFlags := 1537
  interfaces := #[]
  cf := some (fileOf pool4 2 #[] #[] 1537 4 #[] #[])
  fields := #[]
  methods := #[]
  instanceTypes := #[]
  staticTypes := #[]
  resolved := Array.replicate 8 none
  statics := none }

/-- the primitive byte -/
def k5 : Class := { plain "byte" none with kind := .primitive 'B', accessFlags := 0x411 }
/-- [B -/
def k6 : Class := { plain "[B" (some 0) with kind := .array 5 .byte, interfaces := #[3, 4], accessFlags := 1041 }

/-- the primitive int -/
def k7 : Class := { plain "int" none with kind := .primitive 'I', accessFlags := 0x411 }
/-- [I -/
def k8 : Class := { plain "[I" (some 0) with kind := .array 7 .int, interfaces := #[3, 4], accessFlags := 1041 }

def heap : Heap := #[]
def classes : Array Class := #[k0, k1, k2, k3, k4, k5, k6, k7, k8]
def interned : List (Array UInt16 × Addr) := []
def slotsUsed : Nat := 0
def theMethod : MethodId := ⟨1, 2⟩
def args0 : Array Value := #[.int 5, .int 1, .int 2, .int 3]
def aboutOver (below : List Frame) : State where
  vm := { classes := classes, interned := interned.toArray }
  heap := heap
  slotsUsed := slotsUsed
  threads := #[{ frames := .invoking theMethod args0 :: below }]
def below0 : List Frame := [.native { method := ⟨0, 0⟩, args := #[] }]
def about1 : State := aboutOver below0
def p0 : Program := .bare "" "" ""
def e0 : Env := launch0.env 0 0 0
theorem w_frames : about1.frames = Frame.invoking theMethod args0 :: below0 := rfl
set_option maxRecDepth 65536 in
theorem w_args : argsFit about1.vm theMethod args0 = true := by decide +kernel
set_option maxRecDepth 65536 in
theorem w_heap : heapFits about1 = true := by decide +kernel
set_option maxRecDepth 65536 in
theorem w_runnable : about1.curStatus? = some .runnable := by decide +kernel
set_option maxRecDepth 65536 in
theorem w_alone : about1.alone = true := by decide +kernel
set_option maxRecDepth 65536 in
theorem w_named : about1.methodNamed? x = some theMethod := by decide +kernel
set_option maxRecDepth 65536 in
theorem w_hears : about1.hears theMethod below0 = true := by decide +kernel
set_option maxRecDepth 65536 in
theorem w_ripe : about1.ripe theMethod args0 below0 = true := by decide +kernel
theorem w_running : about1.status = .running := rfl
set_option maxRecDepth 65536 in
theorem w_room : about1.hasRoom e0.platform room_1 = true :=
  launch0.hasRoom_least _ room_1 (by decide +kernel) (by decide +kernel) (by decide +kernel) (by decide +kernel) (by decide +kernel) (by decide +kernel)
theorem allAtoms_all (ts : List Jvm.Cond) (a : Array Jvm.Value) (st : Jvm.State) : (allAtoms ts).before a st = ts.all (fun c => c.before a st) := by
  induction ts with
  | nil => rfl
  | cons c t ih =>
    show (Jvm.Cond.and c (allAtoms t)).before a st = _
    rw [Jvm.Cond.before_and, ih, List.all_cons]
def words1 : List Jvm.Cond := Jvm.Cond.code x code maxLocals ret :: tables_1
/-- a 'code' word, met by the world's own term for the bytes: nothing is compared byte by byte -/
theorem code_word {y : MethodName} {bytes : ByteArray} {mx : Nat} {rt : Option FieldType} {a : Array Value} {s : State} {m : MethodId} {meth : Method} {c : Code} (h1 : s.methodNamed? y = some m) (h2 : s.vm.method? m = some meth) (h3 : meth.code = some c) (h4 : c.code = bytes)
    (h5 : (c.maxLocals == mx && c.exceptionTable.isEmpty && decide (c.maxStack ≤ mostOperands) && decide (meth.sig.returnType = rt) && !meth.locks && decide (parseMethodDescriptor y.desc = some meth.sig)) = true) : (Jvm.Cond.code y bytes mx rt).before a s = true := by
  simp only [Bool.and_eq_true, beq_iff_eq, Bool.not_eq_true', decide_eq_true_eq] at h5
  obtain ⟨⟨⟨⟨⟨g1, g2⟩, g3⟩, g4⟩, g5⟩, g6⟩ := h5
  simp [Cond.before, Cond.holds, Cond.value, h1, h2, h3, h4, g1, g2, g3, g4, g5, g6]
def isCode : Jvm.Cond → Bool
  | .code _ _ _ _ => true
  | _ => false
theorem all_split {L : List Jvm.Cond} {P : Jvm.Cond → Bool} (h1 : L.all (fun c => isCode c || P c) = true) (h2 : ∀ c ∈ L.filter isCode, P c = true) : L.all P = true := by
  refine List.all_eq_true.mpr fun c hc => ?_
  have h := List.all_eq_true.mp h1 c hc
  rcases Bool.eq_false_or_eq_true (isCode c) with hi | hi
  · exact h2 c (List.mem_filter.mpr ⟨hc, hi⟩)
  · simpa [hi] using h
set_option maxRecDepth 65536 in
theorem w_c0 : (Jvm.Cond.code x code maxLocals ret).before args0 about1 = true := code_word (m := ⟨1, 2⟩) (meth := k1m2) (c := k1c2) (by decide +kernel) rfl rfl rfl (by decide +kernel)
set_option maxRecDepth 65536 in
theorem w_c1 : (Jvm.Cond.code ({ cls := "com/example/kdata/kdata/XmlChars", name := "isChar", desc := "(I)Z" } : Jvm.MethodName) prog_134_method_5_code (1 : Nat) (Option.some Jvm.ClassFile.FieldType.boolean)).before args0 about1 = true := code_word (m := ⟨2, 1⟩) (meth := k2m1) (c := k2c1) (by decide +kernel) rfl rfl rfl (by decide +kernel)
set_option maxRecDepth 65536 in
theorem w_c2 : (Jvm.Cond.code ({ cls := "com/example/kdata/kdata/XmlCharsIsCharPinLaw", name := "expected", desc := "(I)Z" } : Jvm.MethodName) method_2_code (1 : Nat) (Option.some Jvm.ClassFile.FieldType.boolean)).before args0 about1 = true := code_word (m := ⟨1, 1⟩) (meth := k1m1) (c := k1c1) (by decide +kernel) rfl rfl rfl (by decide +kernel)
def codes1 : List Jvm.Cond := [Jvm.Cond.code x code maxLocals ret, Jvm.Cond.code ({ cls := "com/example/kdata/kdata/XmlChars", name := "isChar", desc := "(I)Z" } : Jvm.MethodName) prog_134_method_5_code (1 : Nat) (Option.some Jvm.ClassFile.FieldType.boolean), Jvm.Cond.code ({ cls := "com/example/kdata/kdata/XmlCharsIsCharPinLaw", name := "expected", desc := "(I)Z" } : Jvm.MethodName) method_2_code (1 : Nat) (Option.some Jvm.ClassFile.FieldType.boolean)]
set_option maxRecDepth 65536 in
theorem codes_eq : words1.filter isCode = codes1 := rfl
theorem w_codes : ∀ c ∈ words1.filter isCode, c.before args0 about1 = true := by
  rw [codes_eq]
  intro c hc
  simp only [codes1, List.mem_cons, List.not_mem_nil, or_false] at hc
  rcases hc with rfl | rfl | rfl
  · exact w_c0
  · exact w_c1
  · exact w_c2
set_option maxRecDepth 65536 in
theorem w_t1 : (words1.take 24).all (fun c => isCode c || c.before args0 about1) = true := by decide +kernel
set_option maxRecDepth 65536 in
theorem w_t2 : (words1.drop 24).all (fun c => isCode c || c.before args0 about1) = true := by decide +kernel
theorem w_tables : (allAtoms (Jvm.Cond.code x code maxLocals ret :: tables_1)).before args0 about1 = true := by
  rw [allAtoms_all]
  show words1.all (fun c => c.before args0 about1) = true
  refine all_split ?_ w_codes
  rw [← List.take_append_drop 24 words1, List.all_append, w_t1, w_t2]
  rfl
set_option maxRecDepth 65536 in
theorem w_case : (Jvm.Cond.and given_1 narrow_1).before args0 about1 = true := by decide +kernel
theorem w_applies : (headSpec (Jvm.Cond.code x code maxLocals ret :: tables_1) room_1).applies x e0.platform about1 = true :=
  (Spec.applies_iff w_frames).mpr ⟨w_running, w_runnable, w_alone, w_named, w_hears, w_ripe, w_room, w_tables⟩
theorem atStart : AtStart classFile x code maxLocals ret World_1 tables_1 room_1 Calls_1 rest_1 Pre_1 launch0 p0 e0 about1 theMethod args0 below0 :=
  ⟨lists_1, trivial, launch0.admits_env _ _ _, launch0.least_env, fairChoices_fair.cas, fairChoices_fair.clock, w_frames, w_args, w_heap, w_applies, trivial, trivial, w_case⟩
end start1
theorem witness_1 : WitnessClaimed_1 := ⟨start1.p0, start1.e0, start1.about1, start1.theMethod, start1.args0, start1.below0, start1.atStart⟩
end Jvm.Pilot.@@N@@
