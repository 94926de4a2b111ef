import JvmDerived
import JvmDerived.Pilot.@@N@@Statement
import JvmDerived.Pilot.@@N@@Code
set_option linter.unusedVariables false
set_option linter.unusedSimpArgs false
@@BLOCK:NumsL.lean.txt@@
@@BLOCK:Masks.lean.txt@@
namespace Jvm.RoadKit
open Sem ClassFile Op Lib Jvm.Stand Jvm.Free Jvm.LawKit
section New
variable {p : Program} {l : Launch} {e : Env} {R : Room} {s : State} {m : MethodId} {args : Array Value} {below : List Frame} {meth : Method} {c : Code} {T : State} {locs : List Loc} {cells slots : Nat}
theorem retI (X : Stand p l e R s m args below meth c T locs cells slots) (hx : p.tables.exec = Jvm.exec) {pc : Nat} {Ls : Array Slot} {z : Int32} {rest : List Value} (hret : meth.sig.returnType = some .int) (hd : decode c.code pc = .ok (.ireturn, 1)) {fs : List Frame}
    (hl : ∀ (f : JFrame) (acts : List Action), f.method = m → f.locked = none → f.entered = [] → (doReturn e (T.setTop f) acts (some (.int z))).1 = T.setFrames fs) : Steps p.tables e below (T.setTop (mkF m pc Ls (.int z :: rest))) (T.setFrames fs) := by
  have hm' : T.vm.method? m = some meth := X.method'
  have hn : narrow .int (.int z) = .int z := rfl
  show Steps p.tables e below (T.setTop { method := m, pc := pc, locals := Ls, stack := _ :: rest, locked := none }) _
  jvm_step X.here [X.here.top, hx, hd, hm', hret, hn]
  first | (intro acts; rw [hl _ acts rfl rfl rfl]) | rw [hl _ _ rfl rfl rfl]
  exact Steps.refl _
end New
end Jvm.RoadKit
namespace Jvm.Pilot.@@N@@
open Jvm Jvm.ClassFile Sem Op Lib Jvm.Free Jvm.Stand Jvm.LawKit Jvm.RoadKit Bundle Jvm.Pilot.@@N@@.Jvm.D
abbrev own_Go (p : Program) (e : Env) (below : List Frame) (s : State) (Q : Option Value → Heap → List Loc → Prop) (cs ss : Nat) (a : State) : Prop := ∃ (t : State) (o : Outcome), Steps p.tables e below a t ∧ t.status = .running ∧ Ended t below o ∧ ∃ (v : Option Value) (L : List Loc), o = .returned v ∧ Q v t.heap L ∧ FrameEnd s o t L cs ss
section Own
variable {p : Program} {l : Launch} {e : Env} {R : Room} {s : State} {m : MethodId} {args : Array Value} {below : List Frame} {meth : Method} {c : Code} {T : State} {locs : List Loc} {cells slots : Nat} {Q : Option Value → Heap → List Loc → Prop} {cs ss : Nat}
theorem own_go {a b : State} (h : ∀ t, Steps p.tables e below b t → Steps p.tables e below a t) (g : own_Go p e below s Q cs ss b) : own_Go p e below s Q cs ss a := by
  obtain ⟨t, o, h1, h2⟩ := g
  exact ⟨t, o, h t h1, h2⟩
theorem own_end (X : Stand p l e R s m args below meth c T locs cells slots) (hlk : meth.locks = false) {v : Option Value} (hv : meth.sig.returnType = none → v = none) {a : State}
    (hs : ∀ fs, (∀ (f : JFrame) (acts : List Action), f.method = m → f.locked = none → f.entered = [] → (doReturn e (T.setTop f) acts v).1 = T.setFrames fs) → Steps p.tables e below a (T.setFrames fs))
    {h : Heap} (eT : T.heap = h) (hq : Q v h locs) (h1 : cells ≤ cs) (h2 : slots ≤ ss) : own_Go p e below s Q cs ss a := by
  obtain ⟨fs, hr, hrun, hended, hW, hsame⟩ := X.leave hv hlk
  subst eT
  exact ⟨_, _, hs fs hr, hrun, hended, _, _, rfl, hq, ⟨_, rfl⟩, hW, hsame.mono h1 h2⟩
end Own
theorem own_hin {n : Nat} {cl : Cell} {j : Int32} (S : cl.slots.size = n) (h : ¬ j < 0 ∧ j.toNatClampNeg < n) : ¬ (j < 0 ∨ cl.slots.size ≤ j.toNatClampNeg) := by
  rw [S]; exact fun q => q.elim h.1 (fun u => absurd h.2 (Nat.not_lt.mpr u))
theorem own_has {cl : Cell} {xs : List Int32} {n : Nat} (H : Has cl (xs.map Value.int) (.int 0)) (S : cl.slots.size = n) : ∀ i, i < n → cl.slots[i]? = some (.int (xs.getD i 0)) := by
  intro i hi
  rw [H i (by rw [S]; exact hi)]
  simp only [List.getD_eq_getElem?_getD, List.getElem?_map]
  cases xs[i]? <;> rfl
theorem own_hasL {cl : Cell} {xs : List Int64} {n : Nat} (H : Has cl (xs.map Value.long) (.long 0)) (S : cl.slots.size = n) : ∀ i, i < n → cl.slots[i]? = some (.long (xs.getD i 0)) := by
  intro i hi
  rw [H i (by rw [S]; exact hi)]
  simp only [List.getD_eq_getElem?_getD, List.getElem?_map]
  cases xs[i]? <;> rfl
theorem own_succ {j z : Int32} (h : 0 ≤ j.toInt) (h2 : j.toInt < z.toInt) : (j + (1 : Int32)).toInt = j.toInt + 1 := by
  have hz := z.toInt_lt
  have e1 : (1 : Int32).toInt = 1 := rfl
  rw [Jvm.Kit.i32_add (by rw [e1]; omega) (by rw [e1]; omega), e1]
theorem own_ix {j z : Int32} (h : 0 ≤ j.toInt) (h2 : j.toInt < z.toInt) : ¬ j < 0 ∧ j.toNatClampNeg < z.toNatClampNeg := by
  refine ⟨?_, ?_⟩
  · rw [Int32.lt_iff_toInt_lt]; show ¬ _ < (0 : Int); omega
  · show j.toInt.toNat < z.toInt.toNat; omega
def own_pdeA (f : Nat → Int32) (t : Int32) : Nat → Int32 → Int32
  | 0, _ => t
  | k + 1, j => if f j.toNatClampNeg = (94 : Int32) then (if j + (1 : Int32) = t then j else if f (j + (1 : Int32)).toNatClampNeg = (94 : Int32) then (-1 : Int32) else j) else own_pdeA f t k (j + (1 : Int32))
def own_pde_0 (f : Nat → Int32) (a t : Int32) : Int32 := own_pdeA f t (t.toInt - a.toInt).toNat a
def own_pick_0 (y1 : Int64) (u2 : Int32) (u3 : Int32)  : Int32 :=
  if ((u2 >>> (u3 &&& 31)) &&& (1 : Int32)) = (0 : Int32) then
    (nar .byte ((((y1.toUInt64 >>> (((8 : Int32) * u3) &&& 0x3f).toInt64.toUInt64).toInt64).toInt32).toInt8.toInt32))
  else
    (94 : Int32)
theorem d1_0 : decode method_3_code 0 = .ok (.iload_n 2, 1) := by decide +kernel
theorem d1_1 : decode method_3_code 1 = .ok (.iload_n 3, 1) := by decide +kernel
theorem d1_2 : decode method_3_code 2 = .ok (.ishr, 1) := by decide +kernel
theorem d1_3 : decode method_3_code 3 = .ok (.iconst 1, 1) := by decide +kernel
theorem d1_4 : decode method_3_code 4 = .ok (.iand, 1) := by decide +kernel
theorem d1_5 : decode method_3_code 5 = .ok (.ifCond .eq 6, 3) := by decide +kernel
theorem d1_8 : decode method_3_code 8 = .ok (.bipush 94, 2) := by decide +kernel
theorem d1_10 : decode method_3_code 10 = .ok (.ireturn, 1) := by decide +kernel
theorem d1_11 : decode method_3_code 11 = .ok (.lload_n 0, 1) := by decide +kernel
theorem d1_12 : decode method_3_code 12 = .ok (.bipush 8, 2) := by decide +kernel
theorem d1_14 : decode method_3_code 14 = .ok (.iload_n 3, 1) := by decide +kernel
theorem d1_15 : decode method_3_code 15 = .ok (.imul, 1) := by decide +kernel
theorem d1_16 : decode method_3_code 16 = .ok (.lushr, 1) := by decide +kernel
theorem d1_17 : decode method_3_code 17 = .ok (.l2i, 1) := by decide +kernel
theorem d1_18 : decode method_3_code 18 = .ok (.i2b, 1) := by decide +kernel
theorem d1_19 : decode method_3_code 19 = .ok (.ireturn, 1) := by decide +kernel
theorem pn_1 : plainName "com/example/fieldbook/fieldbook/FieldPlainDataEndPinLaw" = true := by first | (simp [plainName, overriddenIn]; done) | decide +kernel
theorem ef_1 (m : MethodId) (x0 : Int64) (x1 : Int32) (x2 : Int32) : entryFrame m #[(.long x0), (.int x1), (.int x2)] 4 = mkF m 0 #[.val (.long x0), .second, .val (.int x1), .val (.int x2)] [] := by first | (simp [entryFrame, mkF, argsToLocals, Value.category]; done) | rfl
def Q1 (y1 : Int64) (u2 : Int32) (u3 : Int32) (h0 : Heap) (n0 : Nat) (v : Option Value) (h : Heap) (L : List Loc) : Prop := v = some (.int (own_pick_0 y1 u2 u3)) ∧ Fr n0 L ∧ h = h0
set_option maxRecDepth 65536 in
set_option maxHeartbeats 40000000 in
theorem rm1 (l : Launch) (Z : State) (a0 : Array Value) (hw : ∀ d ∈ tables_1, d.before a0 Z = true) (ws : List Jvm.Cond) (y1 : Int64) (u2 : Int32) (u3 : Int32) (h0 : Heap) (n0 : Nat) (Z0 : n0 ≤ h0.size)   :
    MetFree l (⟨"com/example/fieldbook/fieldbook/FieldPlainDataEndPinLaw", "pick", "(JII)B"⟩ : MethodName) (head1 (Jvm.Cond.code (⟨"com/example/fieldbook/fieldbook/FieldPlainDataEndPinLaw", "pick", "(JII)B"⟩ : MethodName) method_3_code 4 (some .byte) :: ws) ({ frames := 0, cells := 0, slots := 0, locals := 0 } : Room)) (fun a U => a = #[(.long y1), (.int u2), (.int u3)] ∧ Z.Warmed39 U.vm ∧ U.heap = h0) (fun _ _ _ _ _ => True) (fun _ U o U' => ∃ v L, o = .returned v ∧ Q1 y1 u2 u3 h0 n0 v U'.heap L ∧ FrameEnd U o U' L ({ frames := 0, cells := 0, slots := 0, locals := 0 } : Room).cells ({ frames := 0, cells := 0, slots := 0, locals := 0 } : Room).slots) := by
  refine MetFree.of_bodySF (plainFor_of_name pn_1) hisR ?_
  intro p e s m args below meth c s₁ Bd hml0 hP hK
  obtain ⟨rfl, hZ, hh⟩ := hP
  have hx := Bd.exec
  have hby := Bd.bytes
  have hml : c.maxLocals = 4 := hml0
  have hown : s.vm.findClass "com/example/fieldbook/fieldbook/FieldPlainDataEndPinLaw" = some m.cls := findClass_of_methodNamed Bd.named
  have hnm := (name_of_methodNamed Bd.named Bd.method).1
  have X0 : Stand p l e ({ frames := 0, cells := 0, slots := 0, locals := 0 } : Room) s m #[(.long y1), (.int u2), (.int u3)] below meth c s₁ [] 0 0 := Stand.of_body Bd
  have e0 : s₁.heap = h0 := by rw [← hh, Bd.state]; rfl
  have N0 := Fr.nil n0
  show own_Go p e below s (Q1 y1 u2 u3 h0 n0) ({ frames := 0, cells := 0, slots := 0, locals := 0 } : Room).cells ({ frames := 0, cells := 0, slots := 0, locals := 0 } : Room).slots (s₁.setTop (entryFrame m #[(.long y1), (.int u2), (.int u3)] 4))
  refine own_go (b := s₁.setTop (mkF m 0 #[.val (.long y1), .second, .val (.int u2), .val (.int u3)] [])) (fun t k => castTop (ef_1 m y1 u2 u3) k) ?_
  refine own_go (b := s₁.setTop (mkF m 5 #[.val (.long y1), .second, .val (.int u2), .val (.int u3)] [(.int ((u2 >>> (u3 &&& 31)) &&& (1 : Int32)))])) (fun t k => ?_) ?_
  · show Steps p.tables e below (s₁.setTop (mkF m 0 #[.val (.long y1), .second, .val (.int u2), .val (.int u3)] [])) _
    refine XS.iloadN X0.here hx rfl (hb hby d1_0) rfl ?_
    show Steps p.tables e below (s₁.setTop (mkF m 1 #[.val (.long y1), .second, .val (.int u2), .val (.int u3)] [(.int u2)])) _
    refine XS.iloadN X0.here hx rfl (hb hby d1_1) rfl ?_
    show Steps p.tables e below (s₁.setTop (mkF m 2 #[.val (.long y1), .second, .val (.int u2), .val (.int u3)] [(.int u3), (.int u2)])) _
    refine XS.ishr X0.here hx rfl (hb hby d1_2) rfl ?_
    show Steps p.tables e below (s₁.setTop (mkF m 3 #[.val (.long y1), .second, .val (.int u2), .val (.int u3)] [(.int (u2 >>> (u3 &&& 31)))])) _
    refine XS.iconst X0.here hx rfl (hb hby d1_3) ?_
    show Steps p.tables e below (s₁.setTop (mkF m 4 #[.val (.long y1), .second, .val (.int u2), .val (.int u3)] [(.int (1 : Int32)), (.int (u2 >>> (u3 &&& 31)))])) _
    refine XS.iand X0.here hx rfl (hb hby d1_4) rfl ?_
    show Steps p.tables e below (s₁.setTop (mkF m 5 #[.val (.long y1), .second, .val (.int u2), .val (.int u3)] [(.int ((u2 >>> (u3 &&& 31)) &&& (1 : Int32)))])) _
    exact k
  by_cases hc5 : ((u2 >>> (u3 &&& 31)) &&& (1 : Int32)) = (0 : Int32)
  · refine own_end X0 Bd.notSynchronized (v := some (.int (nar .byte ((((y1.toUInt64 >>> (((8 : Int32) * u3) &&& 0x3f).toInt64.toUInt64).toInt64).toInt32).toInt8.toInt32)))) (fun h => by rw [Bd.returns] at h; cases h) (fun fs hr => ?_) e0 ?_ (by decide) (by decide)
    · show Steps p.tables e below (s₁.setTop (mkF m 5 #[.val (.long y1), .second, .val (.int u2), .val (.int u3)] [(.int ((u2 >>> (u3 &&& 31)) &&& (1 : Int32)))])) _
      refine XS.ifYes X0.here hx rfl (pc0 := 5) (pc' := 11) rfl (hb hby d1_5) rfl ((if0 _ _).trans (teq hc5).1) (by decide) (by decide) ?_
      show Steps p.tables e below (s₁.setTop (mkF m 11 #[.val (.long y1), .second, .val (.int u2), .val (.int u3)] [])) _
      refine XS.lloadN X0.here hx rfl (hb hby d1_11) rfl ?_
      show Steps p.tables e below (s₁.setTop (mkF m 12 #[.val (.long y1), .second, .val (.int u2), .val (.int u3)] [(.long y1)])) _
      refine XS.bipush X0.here hx rfl (hb hby d1_12) ?_
      show Steps p.tables e below (s₁.setTop (mkF m 14 #[.val (.long y1), .second, .val (.int u2), .val (.int u3)] [(.int (8 : Int32)), (.long y1)])) _
      refine XS.iloadN X0.here hx rfl (hb hby d1_14) rfl ?_
      show Steps p.tables e below (s₁.setTop (mkF m 15 #[.val (.long y1), .second, .val (.int u2), .val (.int u3)] [(.int u3), (.int (8 : Int32)), (.long y1)])) _
      refine XS.imul X0.here hx rfl (hb hby d1_15) rfl ?_
      show Steps p.tables e below (s₁.setTop (mkF m 16 #[.val (.long y1), .second, .val (.int u2), .val (.int u3)] [(.int ((8 : Int32) * u3)), (.long y1)])) _
      refine XS.lushr X0.here hx rfl (hb hby d1_16) rfl ?_
      show Steps p.tables e below (s₁.setTop (mkF m 17 #[.val (.long y1), .second, .val (.int u2), .val (.int u3)] [(.long ((y1.toUInt64 >>> (((8 : Int32) * u3) &&& 0x3f).toInt64.toUInt64).toInt64))])) _
      refine XS.l2i X0.here hx rfl (hb hby d1_17) rfl ?_
      show Steps p.tables e below (s₁.setTop (mkF m 18 #[.val (.long y1), .second, .val (.int u2), .val (.int u3)] [(.int (((y1.toUInt64 >>> (((8 : Int32) * u3) &&& 0x3f).toInt64.toUInt64).toInt64).toInt32))])) _
      refine XS.i2b X0.here hx rfl (hb hby d1_18) rfl ?_
      show Steps p.tables e below (s₁.setTop (mkF m 19 #[.val (.long y1), .second, .val (.int u2), .val (.int u3)] [(.int ((((y1.toUInt64 >>> (((8 : Int32) * u3) &&& 0x3f).toInt64.toUInt64).toInt64).toInt32).toInt8.toInt32))])) _
      exact retN X0 hx (t := .byte) Bd.returns (by simp) (hb hby d1_19) hr
    · exact ⟨by rw [own_pick_0, if_pos hc5], N0, rfl⟩
  · refine own_end X0 Bd.notSynchronized (v := some (.int (94 : Int32))) (fun h => by rw [Bd.returns] at h; cases h) (fun fs hr => ?_) e0 ?_ (by decide) (by decide)
    · show Steps p.tables e below (s₁.setTop (mkF m 5 #[.val (.long y1), .second, .val (.int u2), .val (.int u3)] [(.int ((u2 >>> (u3 &&& 31)) &&& (1 : Int32)))])) _
      refine XS.ifNo X0.here hx rfl (hb hby d1_5) rfl ((if0 _ _).trans (feq hc5).1) ?_
      show Steps p.tables e below (s₁.setTop (mkF m 8 #[.val (.long y1), .second, .val (.int u2), .val (.int u3)] [])) _
      refine XS.bipush X0.here hx rfl (hb hby d1_8) ?_
      show Steps p.tables e below (s₁.setTop (mkF m 10 #[.val (.long y1), .second, .val (.int u2), .val (.int u3)] [(.int (94 : Int32))])) _
      exact retN X0 hx (t := .byte) Bd.returns (by simp) (hb hby d1_10) hr
    · exact ⟨by rw [own_pick_0, if_neg hc5], N0, rfl⟩
def own_mark_0 (f_b1 : Nat → Int32) (u1 : Int32) (u2 : Int32) (u3 : Int32)  : Int32 :=
  if u1 < u2 then
    (0 : Int32)
  else
    if u1 < u3 then
      if (f_b1 u1.toNatClampNeg) = (94 : Int32) then
        (1 : Int32)
      else
        (0 : Int32)
    else
      (0 : Int32)
theorem d2_0 : decode method_2_code 0 = .ok (.iload_n 2, 1) := by decide +kernel
theorem d2_1 : decode method_2_code 1 = .ok (.iload_n 1, 1) := by decide +kernel
theorem d2_2 : decode method_2_code 2 = .ok (.if_icmp .gt 20, 3) := by decide +kernel
theorem d2_5 : decode method_2_code 5 = .ok (.iload_n 1, 1) := by decide +kernel
theorem d2_6 : decode method_2_code 6 = .ok (.iload_n 3, 1) := by decide +kernel
theorem d2_7 : decode method_2_code 7 = .ok (.if_icmp .ge 15, 3) := by decide +kernel
theorem d2_10 : decode method_2_code 10 = .ok (.aload_n 0, 1) := by decide +kernel
theorem d2_11 : decode method_2_code 11 = .ok (.iload_n 1, 1) := by decide +kernel
theorem d2_12 : decode method_2_code 12 = .ok (.baload, 1) := by decide +kernel
theorem d2_13 : decode method_2_code 13 = .ok (.bipush 94, 2) := by decide +kernel
theorem d2_15 : decode method_2_code 15 = .ok (.if_icmp .ne 7, 3) := by decide +kernel
theorem d2_18 : decode method_2_code 18 = .ok (.iconst 1, 1) := by decide +kernel
theorem d2_19 : decode method_2_code 19 = .ok (.goto 4, 3) := by decide +kernel
theorem d2_22 : decode method_2_code 22 = .ok (.iconst 0, 1) := by decide +kernel
theorem d2_23 : decode method_2_code 23 = .ok (.ireturn, 1) := by decide +kernel
theorem pn_2 : plainName "com/example/fieldbook/fieldbook/FieldPlainDataEndPinLaw" = true := by first | (simp [plainName, overriddenIn]; done) | decide +kernel
theorem ef_2 (m : MethodId) (x0 : Addr) (x1 : Int32) (x2 : Int32) (x3 : Int32) : entryFrame m #[(.ref x0), (.int x1), (.int x2), (.int x3)] 4 = mkF m 0 #[.val (.ref x0), .val (.int x1), .val (.int x2), .val (.int x3)] [] := by first | (simp [entryFrame, mkF, argsToLocals, Value.category]; done) | rfl
def Q2 (b1 : Addr) (cl_b1 : Cell) (f_b1 : Nat → Int32) (z_b1 : Int32) (u1 : Int32) (u2 : Int32) (u3 : Int32) (h0 : Heap) (n0 : Nat) (v : Option Value) (h : Heap) (L : List Loc) : Prop := v = some (.int (own_mark_0 f_b1 u1 u2 u3)) ∧ Fr n0 L ∧ h = h0
set_option maxRecDepth 65536 in
set_option maxHeartbeats 40000000 in
theorem rm2 (l : Launch) (Z : State) (a0 : Array Value) (hw : ∀ d ∈ tables_1, d.before a0 Z = true) (ws : List Jvm.Cond) (b1 : Addr) (cl_b1 : Cell) (f_b1 : Nat → Int32) (z_b1 : Int32) (u1 : Int32) (u2 : Int32) (u3 : Int32) (h0 : Heap) (n0 : Nat) (Z0 : n0 ≤ h0.size) (Ar_b1 : Arr Z h0 b1 cl_b1 .byte) (S_b1 : cl_b1.slots.size = z_b1.toNatClampNeg) (M_b1 : ¬ z_b1 < 0) (H_b1 : ∀ i, i < z_b1.toNatClampNeg → cl_b1.slots[i]? = some (.int (f_b1 i))) (hk : ¬ u1 < 0 ∧ u1.toNatClampNeg < z_b1.toNatClampNeg) :
    MetFree l (⟨"com/example/fieldbook/fieldbook/FieldPlainDataEndPinLaw", "mark", "([BIII)Z"⟩ : MethodName) (head1 (Jvm.Cond.code (⟨"com/example/fieldbook/fieldbook/FieldPlainDataEndPinLaw", "mark", "([BIII)Z"⟩ : MethodName) method_2_code 4 (some .boolean) :: ws) ({ frames := 0, cells := 0, slots := 0, locals := 0 } : Room)) (fun a U => a = #[(.ref b1), (.int u1), (.int u2), (.int u3)] ∧ Z.Warmed39 U.vm ∧ U.heap = h0) (fun _ _ _ _ _ => True) (fun _ U o U' => ∃ v L, o = .returned v ∧ Q2 b1 cl_b1 f_b1 z_b1 u1 u2 u3 h0 n0 v U'.heap L ∧ FrameEnd U o U' L ({ frames := 0, cells := 0, slots := 0, locals := 0 } : Room).cells ({ frames := 0, cells := 0, slots := 0, locals := 0 } : Room).slots) := by
  refine MetFree.of_bodySF (plainFor_of_name pn_2) hisR ?_
  intro p e s m args below meth c s₁ Bd hml0 hP hK
  obtain ⟨rfl, hZ, hh⟩ := hP
  have hx := Bd.exec
  have hby := Bd.bytes
  have hml : c.maxLocals = 4 := hml0
  have hown : s.vm.findClass "com/example/fieldbook/fieldbook/FieldPlainDataEndPinLaw" = some m.cls := findClass_of_methodNamed Bd.named
  have hnm := (name_of_methodNamed Bd.named Bd.method).1
  have X0 : Stand p l e ({ frames := 0, cells := 0, slots := 0, locals := 0 } : Room) s m #[(.ref b1), (.int u1), (.int u2), (.int u3)] below meth c s₁ [] 0 0 := Stand.of_body Bd
  have e0 : s₁.heap = h0 := by rw [← hh, Bd.state]; rfl
  have N0 := Fr.nil n0
  show own_Go p e below s (Q2 b1 cl_b1 f_b1 z_b1 u1 u2 u3 h0 n0) ({ frames := 0, cells := 0, slots := 0, locals := 0 } : Room).cells ({ frames := 0, cells := 0, slots := 0, locals := 0 } : Room).slots (s₁.setTop (entryFrame m #[(.ref b1), (.int u1), (.int u2), (.int u3)] 4))
  refine own_go (b := s₁.setTop (mkF m 0 #[.val (.ref b1), .val (.int u1), .val (.int u2), .val (.int u3)] [])) (fun t k => castTop (ef_2 m b1 u1 u2 u3) k) ?_
  refine own_go (b := s₁.setTop (mkF m 2 #[.val (.ref b1), .val (.int u1), .val (.int u2), .val (.int u3)] [(.int u1), (.int u2)])) (fun t k => ?_) ?_
  · show Steps p.tables e below (s₁.setTop (mkF m 0 #[.val (.ref b1), .val (.int u1), .val (.int u2), .val (.int u3)] [])) _
    refine XS.iloadN X0.here hx rfl (hb hby d2_0) rfl ?_
    show Steps p.tables e below (s₁.setTop (mkF m 1 #[.val (.ref b1), .val (.int u1), .val (.int u2), .val (.int u3)] [(.int u2)])) _
    refine XS.iloadN X0.here hx rfl (hb hby d2_1) rfl ?_
    show Steps p.tables e below (s₁.setTop (mkF m 2 #[.val (.ref b1), .val (.int u1), .val (.int u2), .val (.int u3)] [(.int u1), (.int u2)])) _
    exact k
  by_cases hc2 : u1 < u2
  · refine own_end X0 Bd.notSynchronized (v := some (.int (0 : Int32))) (fun h => by rw [Bd.returns] at h; cases h) (fun fs hr => ?_) e0 ?_ (by decide) (by decide)
    · show Steps p.tables e below (s₁.setTop (mkF m 2 #[.val (.ref b1), .val (.int u1), .val (.int u2), .val (.int u3)] [(.int u1), (.int u2)])) _
      refine XS.icmpYes X0.here hx rfl (pc0 := 2) (pc' := 22) rfl (hb hby d2_2) rfl (tlt hc2).2.2.1 (by decide) (by decide) ?_
      show Steps p.tables e below (s₁.setTop (mkF m 22 #[.val (.ref b1), .val (.int u1), .val (.int u2), .val (.int u3)] [])) _
      refine XS.iconst X0.here hx rfl (hb hby d2_22) ?_
      show Steps p.tables e below (s₁.setTop (mkF m 23 #[.val (.ref b1), .val (.int u1), .val (.int u2), .val (.int u3)] [(.int (0 : Int32))])) _
      exact retN X0 hx (t := .boolean) Bd.returns (by simp) (hb hby d2_23) hr
    · exact ⟨by rw [own_mark_0, if_pos hc2], N0, rfl⟩
  · refine own_go (b := s₁.setTop (mkF m 7 #[.val (.ref b1), .val (.int u1), .val (.int u2), .val (.int u3)] [(.int u3), (.int u1)])) (fun t k => ?_) ?_
    · show Steps p.tables e below (s₁.setTop (mkF m 2 #[.val (.ref b1), .val (.int u1), .val (.int u2), .val (.int u3)] [(.int u1), (.int u2)])) _
      refine XS.icmpNo X0.here hx rfl (hb hby d2_2) rfl (flt hc2).2.2.1 ?_
      show Steps p.tables e below (s₁.setTop (mkF m 5 #[.val (.ref b1), .val (.int u1), .val (.int u2), .val (.int u3)] [])) _
      refine XS.iloadN X0.here hx rfl (hb hby d2_5) rfl ?_
      show Steps p.tables e below (s₁.setTop (mkF m 6 #[.val (.ref b1), .val (.int u1), .val (.int u2), .val (.int u3)] [(.int u1)])) _
      refine XS.iloadN X0.here hx rfl (hb hby d2_6) rfl ?_
      show Steps p.tables e below (s₁.setTop (mkF m 7 #[.val (.ref b1), .val (.int u1), .val (.int u2), .val (.int u3)] [(.int u3), (.int u1)])) _
      exact k
    by_cases hc7 : u1 < u3
    · have hi1 : ¬ u1 < 0 ∧ u1.toNatClampNeg < z_b1.toNatClampNeg := hk
      refine own_go (b := s₁.setTop (mkF m 15 #[.val (.ref b1), .val (.int u1), .val (.int u2), .val (.int u3)] [(.int (94 : Int32)), (.int (f_b1 u1.toNatClampNeg))])) (fun t k => ?_) ?_
      · show Steps p.tables e below (s₁.setTop (mkF m 7 #[.val (.ref b1), .val (.int u1), .val (.int u2), .val (.int u3)] [(.int u3), (.int u1)])) _
        refine XS.icmpNo X0.here hx rfl (hb hby d2_7) rfl (tlt hc7).2.1 ?_
        show Steps p.tables e below (s₁.setTop (mkF m 10 #[.val (.ref b1), .val (.int u1), .val (.int u2), .val (.int u3)] [])) _
        refine XS.aloadN X0.here hx rfl (hb hby d2_10) rfl rfl ?_
        show Steps p.tables e below (s₁.setTop (mkF m 11 #[.val (.ref b1), .val (.int u1), .val (.int u2), .val (.int u3)] [(.ref b1)])) _
        refine XS.iloadN X0.here hx rfl (hb hby d2_11) rfl ?_
        show Steps p.tables e below (s₁.setTop (mkF m 12 #[.val (.ref b1), .val (.int u1), .val (.int u2), .val (.int u3)] [(.int u1), (.ref b1)])) _
        refine X0.baloadBytes hx (j := u1) (v := (.int (f_b1 u1.toNatClampNeg))) (by rw [e0]; exact Ar_b1.1) (State.isArrayOf_alike hZ.alike Ar_b1.2.1) Ar_b1.2.2 (own_hin S_b1 hi1) (H_b1 _ hi1.2) (g := (mkF m 12 #[.val (.ref b1), .val (.int u1), .val (.int u2), .val (.int u3)] [(.int u1), (.ref b1)])) rfl rfl (hb hby d2_12) _ ?_
        show Steps p.tables e below (s₁.setTop (mkF m 13 #[.val (.ref b1), .val (.int u1), .val (.int u2), .val (.int u3)] [(.int (f_b1 u1.toNatClampNeg))])) _
        refine XS.bipush X0.here hx rfl (hb hby d2_13) ?_
        show Steps p.tables e below (s₁.setTop (mkF m 15 #[.val (.ref b1), .val (.int u1), .val (.int u2), .val (.int u3)] [(.int (94 : Int32)), (.int (f_b1 u1.toNatClampNeg))])) _
        exact k
      by_cases hc15 : (f_b1 u1.toNatClampNeg) = (94 : Int32)
      · refine own_end X0 Bd.notSynchronized (v := some (.int (1 : Int32))) (fun h => by rw [Bd.returns] at h; cases h) (fun fs hr => ?_) e0 ?_ (by decide) (by decide)
        · show Steps p.tables e below (s₁.setTop (mkF m 15 #[.val (.ref b1), .val (.int u1), .val (.int u2), .val (.int u3)] [(.int (94 : Int32)), (.int (f_b1 u1.toNatClampNeg))])) _
          refine XS.icmpNo X0.here hx rfl (hb hby d2_15) rfl (teq hc15).2 ?_
          show Steps p.tables e below (s₁.setTop (mkF m 18 #[.val (.ref b1), .val (.int u1), .val (.int u2), .val (.int u3)] [])) _
          refine XS.iconst X0.here hx rfl (hb hby d2_18) ?_
          show Steps p.tables e below (s₁.setTop (mkF m 19 #[.val (.ref b1), .val (.int u1), .val (.int u2), .val (.int u3)] [(.int (1 : Int32))])) _
          refine XS.goto X0.here hx rfl (pc0 := 19) (pc' := 23) rfl (hb hby d2_19) (by decide) (by decide) ?_
          show Steps p.tables e below (s₁.setTop (mkF m 23 #[.val (.ref b1), .val (.int u1), .val (.int u2), .val (.int u3)] [(.int (1 : Int32))])) _
          exact retN X0 hx (t := .boolean) Bd.returns (by simp) (hb hby d2_23) hr
        · exact ⟨by rw [own_mark_0, if_neg hc2, if_pos hc7, if_pos hc15], N0, rfl⟩
      · refine own_end X0 Bd.notSynchronized (v := some (.int (0 : Int32))) (fun h => by rw [Bd.returns] at h; cases h) (fun fs hr => ?_) e0 ?_ (by decide) (by decide)
        · show Steps p.tables e below (s₁.setTop (mkF m 15 #[.val (.ref b1), .val (.int u1), .val (.int u2), .val (.int u3)] [(.int (94 : Int32)), (.int (f_b1 u1.toNatClampNeg))])) _
          refine XS.icmpYes X0.here hx rfl (pc0 := 15) (pc' := 22) rfl (hb hby d2_15) rfl (feq hc15).2 (by decide) (by decide) ?_
          show Steps p.tables e below (s₁.setTop (mkF m 22 #[.val (.ref b1), .val (.int u1), .val (.int u2), .val (.int u3)] [])) _
          refine XS.iconst X0.here hx rfl (hb hby d2_22) ?_
          show Steps p.tables e below (s₁.setTop (mkF m 23 #[.val (.ref b1), .val (.int u1), .val (.int u2), .val (.int u3)] [(.int (0 : Int32))])) _
          exact retN X0 hx (t := .boolean) Bd.returns (by simp) (hb hby d2_23) hr
        · exact ⟨by rw [own_mark_0, if_neg hc2, if_pos hc7, if_neg hc15], N0, rfl⟩
    · refine own_end X0 Bd.notSynchronized (v := some (.int (0 : Int32))) (fun h => by rw [Bd.returns] at h; cases h) (fun fs hr => ?_) e0 ?_ (by decide) (by decide)
      · show Steps p.tables e below (s₁.setTop (mkF m 7 #[.val (.ref b1), .val (.int u1), .val (.int u2), .val (.int u3)] [(.int u3), (.int u1)])) _
        refine XS.icmpYes X0.here hx rfl (pc0 := 7) (pc' := 22) rfl (hb hby d2_7) rfl (flt hc7).2.1 (by decide) (by decide) ?_
        show Steps p.tables e below (s₁.setTop (mkF m 22 #[.val (.ref b1), .val (.int u1), .val (.int u2), .val (.int u3)] [])) _
        refine XS.iconst X0.here hx rfl (hb hby d2_22) ?_
        show Steps p.tables e below (s₁.setTop (mkF m 23 #[.val (.ref b1), .val (.int u1), .val (.int u2), .val (.int u3)] [(.int (0 : Int32))])) _
        exact retN X0 hx (t := .boolean) Bd.returns (by simp) (hb hby d2_23) hr
      · exact ⟨by rw [own_mark_0, if_neg hc2, if_neg hc7], N0, rfl⟩
theorem d3_0 : decode prog_63_method_5_code 0 = .ok (.iload_n 1, 1) := by decide +kernel
theorem d3_1 : decode prog_63_method_5_code 1 = .ok (.istore_n 3, 1) := by decide +kernel
theorem d3_2 : decode prog_63_method_5_code 2 = .ok (.iload_n 3, 1) := by decide +kernel
theorem d3_3 : decode prog_63_method_5_code 3 = .ok (.iload_n 2, 1) := by decide +kernel
theorem d3_4 : decode prog_63_method_5_code 4 = .ok (.if_icmp .ge 40, 3) := by decide +kernel
theorem d3_7 : decode prog_63_method_5_code 7 = .ok (.aload_n 0, 1) := by decide +kernel
theorem d3_8 : decode prog_63_method_5_code 8 = .ok (.iload_n 3, 1) := by decide +kernel
theorem d3_9 : decode prog_63_method_5_code 9 = .ok (.baload, 1) := by decide +kernel
theorem d3_10 : decode prog_63_method_5_code 10 = .ok (.bipush 94, 2) := by decide +kernel
theorem d3_12 : decode prog_63_method_5_code 12 = .ok (.if_icmp .ne 26, 3) := by decide +kernel
theorem d3_15 : decode prog_63_method_5_code 15 = .ok (.iload_n 3, 1) := by decide +kernel
theorem d3_16 : decode prog_63_method_5_code 16 = .ok (.iconst 1, 1) := by decide +kernel
theorem d3_17 : decode prog_63_method_5_code 17 = .ok (.iadd, 1) := by decide +kernel
theorem d3_18 : decode prog_63_method_5_code 18 = .ok (.iload_n 2, 1) := by decide +kernel
theorem d3_19 : decode prog_63_method_5_code 19 = .ok (.if_icmp .eq 13, 3) := by decide +kernel
theorem d3_22 : decode prog_63_method_5_code 22 = .ok (.aload_n 0, 1) := by decide +kernel
theorem d3_23 : decode prog_63_method_5_code 23 = .ok (.iload_n 3, 1) := by decide +kernel
theorem d3_24 : decode prog_63_method_5_code 24 = .ok (.iconst 1, 1) := by decide +kernel
theorem d3_25 : decode prog_63_method_5_code 25 = .ok (.iadd, 1) := by decide +kernel
theorem d3_26 : decode prog_63_method_5_code 26 = .ok (.baload, 1) := by decide +kernel
theorem d3_27 : decode prog_63_method_5_code 27 = .ok (.bipush 94, 2) := by decide +kernel
theorem d3_29 : decode prog_63_method_5_code 29 = .ok (.if_icmp .eq 7, 3) := by decide +kernel
theorem d3_32 : decode prog_63_method_5_code 32 = .ok (.iload_n 3, 1) := by decide +kernel
theorem d3_33 : decode prog_63_method_5_code 33 = .ok (.goto 4, 3) := by decide +kernel
theorem d3_36 : decode prog_63_method_5_code 36 = .ok (.iconst (-1), 1) := by decide +kernel
theorem d3_37 : decode prog_63_method_5_code 37 = .ok (.ireturn, 1) := by decide +kernel
theorem d3_38 : decode prog_63_method_5_code 38 = .ok (.iinc 3 1, 3) := by decide +kernel
theorem d3_41 : decode prog_63_method_5_code 41 = .ok (.goto (-39), 3) := by decide +kernel
theorem d3_44 : decode prog_63_method_5_code 44 = .ok (.iload_n 2, 1) := by decide +kernel
theorem d3_45 : decode prog_63_method_5_code 45 = .ok (.ireturn, 1) := by decide +kernel
theorem pn_3 : plainName "com/example/fieldbook/fieldbook/Field" = true := by first | (simp [plainName, overriddenIn]; done) | decide +kernel
theorem ef_3 (m : MethodId) (x0 : Addr) (x1 : Int32) (x2 : Int32) : entryFrame m #[(.ref x0), (.int x1), (.int x2)] 4 = mkF m 0 #[.val (.ref x0), .val (.int x1), .val (.int x2), .unset] [] := by first | (simp [entryFrame, mkF, argsToLocals, Value.category]; done) | rfl
def Q3 (b1 : Addr) (cl_b1 : Cell) (f_b1 : Nat → Int32) (z_b1 : Int32) (u1 : Int32) (u2 : Int32) (h0 : Heap) (n0 : Nat) (v : Option Value) (h : Heap) (L : List Loc) : Prop := v = some (.int (own_pde_0 f_b1 u1 u2)) ∧ Fr n0 L ∧ h = h0
set_option maxRecDepth 65536 in
set_option maxHeartbeats 40000000 in
theorem rm3 (l : Launch) (Z : State) (a0 : Array Value) (hw : ∀ d ∈ tables_1, d.before a0 Z = true) (ws : List Jvm.Cond) (b1 : Addr) (cl_b1 : Cell) (f_b1 : Nat → Int32) (z_b1 : Int32) (u1 : Int32) (u2 : Int32) (h0 : Heap) (n0 : Nat) (Z0 : n0 ≤ h0.size) (Ar_b1 : Arr Z h0 b1 cl_b1 .byte) (S_b1 : cl_b1.slots.size = z_b1.toNatClampNeg) (M_b1 : ¬ z_b1 < 0) (H_b1 : ∀ i, i < z_b1.toNatClampNeg → cl_b1.slots[i]? = some (.int (f_b1 i))) (g1 : 0 ≤ u1.toInt) (g2 : u1.toInt ≤ u2.toInt) (g3 : u2.toInt ≤ z_b1.toInt) :
    MetFree l (⟨"com/example/fieldbook/fieldbook/Field", "plainDataEnd", "([BII)I"⟩ : MethodName) (head1 (Jvm.Cond.code (⟨"com/example/fieldbook/fieldbook/Field", "plainDataEnd", "([BII)I"⟩ : MethodName) prog_63_method_5_code 4 (some .int) :: ws) ({ frames := 0, cells := 0, slots := 0, locals := 0 } : Room)) (fun a U => a = #[(.ref b1), (.int u1), (.int u2)] ∧ Z.Warmed39 U.vm ∧ U.heap = h0) (fun _ _ _ _ _ => True) (fun _ U o U' => ∃ v L, o = .returned v ∧ Q3 b1 cl_b1 f_b1 z_b1 u1 u2 h0 n0 v U'.heap L ∧ FrameEnd U o U' L ({ frames := 0, cells := 0, slots := 0, locals := 0 } : Room).cells ({ frames := 0, cells := 0, slots := 0, locals := 0 } : Room).slots) := by
  refine MetFree.of_bodySF (plainFor_of_name pn_3) hisR ?_
  intro p e s m args below meth c s₁ Bd hml0 hP hK
  obtain ⟨rfl, hZ, hh⟩ := hP
  have hx := Bd.exec
  have hby := Bd.bytes
  have hml : c.maxLocals = 4 := hml0
  have hown : s.vm.findClass "com/example/fieldbook/fieldbook/Field" = some m.cls := findClass_of_methodNamed Bd.named
  have hnm := (name_of_methodNamed Bd.named Bd.method).1
  have X0 : Stand p l e ({ frames := 0, cells := 0, slots := 0, locals := 0 } : Room) s m #[(.ref b1), (.int u1), (.int u2)] below meth c s₁ [] 0 0 := Stand.of_body Bd
  have e0 : s₁.heap = h0 := by rw [← hh, Bd.state]; rfl
  have N0 := Fr.nil n0
  show own_Go p e below s (Q3 b1 cl_b1 f_b1 z_b1 u1 u2 h0 n0) ({ frames := 0, cells := 0, slots := 0, locals := 0 } : Room).cells ({ frames := 0, cells := 0, slots := 0, locals := 0 } : Room).slots (s₁.setTop (entryFrame m #[(.ref b1), (.int u1), (.int u2)] 4))
  refine own_go (b := s₁.setTop (mkF m 0 #[.val (.ref b1), .val (.int u1), .val (.int u2), .unset] [])) (fun t k => castTop (ef_3 m b1 u1 u2) k) ?_
  have J2 : ∀ (k : Nat) (T : State) (lc : List Loc), Stand p l e ({ frames := 0, cells := 0, slots := 0, locals := 0 } : Room) s m #[(.ref b1), (.int u1), (.int u2)] below meth c T lc 0 0 → Fr n0 lc → T.heap = h0 → ∀ (j : Int32), 0 ≤ j.toInt → j.toInt + k = u2.toInt → own_pde_0 f_b1 u1 u2 = own_pdeA f_b1 u2 k j → own_Go p e below s (Q3 b1 cl_b1 f_b1 z_b1 u1 u2 h0 n0) ({ frames := 0, cells := 0, slots := 0, locals := 0 } : Room).cells ({ frames := 0, cells := 0, slots := 0, locals := 0 } : Room).slots (T.setTop (mkF m 2 #[.val (.ref b1), .val (.int u1), .val (.int u2), .val (.int j)] [])) := by
    intro k
    induction k with
    | zero =>
      intro T lc X N eT j i1 i2 hv
      have hc4_1 : ¬ (j < u2) := by rw [Int32.lt_iff_toInt_lt]; omega
      refine own_end X Bd.notSynchronized (v := some (.int u2)) (fun h => by rw [Bd.returns] at h; cases h) (fun fs hr => ?_) eT ?_ (by decide) (by decide)
      · show Steps p.tables e below (T.setTop (mkF m 2 #[.val (.ref b1), .val (.int u1), .val (.int u2), .val (.int j)] [])) _
        refine XS.iloadN X.here hx rfl (hb hby d3_2) rfl ?_
        show Steps p.tables e below (T.setTop (mkF m 3 #[.val (.ref b1), .val (.int u1), .val (.int u2), .val (.int j)] [(.int j)])) _
        refine XS.iloadN X.here hx rfl (hb hby d3_3) rfl ?_
        show Steps p.tables e below (T.setTop (mkF m 4 #[.val (.ref b1), .val (.int u1), .val (.int u2), .val (.int j)] [(.int u2), (.int j)])) _
        refine XS.icmpYes X.here hx rfl (pc0 := 4) (pc' := 44) rfl (hb hby d3_4) rfl (flt hc4_1).2.1 (by decide) (by decide) ?_
        show Steps p.tables e below (T.setTop (mkF m 44 #[.val (.ref b1), .val (.int u1), .val (.int u2), .val (.int j)] [])) _
        refine XS.iloadN X.here hx rfl (hb hby d3_44) rfl ?_
        show Steps p.tables e below (T.setTop (mkF m 45 #[.val (.ref b1), .val (.int u1), .val (.int u2), .val (.int j)] [(.int u2)])) _
        exact retI X hx Bd.returns (hb hby d3_45) hr
      · exact ⟨by rw [hv, own_pdeA], N, rfl⟩
    | succ k ih =>
      intro T lc X N eT j i1 i2 hv
      have i3 : j.toInt < u2.toInt := by omega
      have i4 : j.toInt < z_b1.toInt := by omega
      have hc4_2 : j < u2 := Int32.lt_iff_toInt_lt.mpr i3
      have hi3 : ¬ j < 0 ∧ j.toNatClampNeg < z_b1.toNatClampNeg := own_ix i1 i4
      refine own_go (b := T.setTop (mkF m 12 #[.val (.ref b1), .val (.int u1), .val (.int u2), .val (.int j)] [(.int (94 : Int32)), (.int (f_b1 j.toNatClampNeg))])) (fun t k => ?_) ?_
      · show Steps p.tables e below (T.setTop (mkF m 2 #[.val (.ref b1), .val (.int u1), .val (.int u2), .val (.int j)] [])) _
        refine XS.iloadN X.here hx rfl (hb hby d3_2) rfl ?_
        show Steps p.tables e below (T.setTop (mkF m 3 #[.val (.ref b1), .val (.int u1), .val (.int u2), .val (.int j)] [(.int j)])) _
        refine XS.iloadN X.here hx rfl (hb hby d3_3) rfl ?_
        show Steps p.tables e below (T.setTop (mkF m 4 #[.val (.ref b1), .val (.int u1), .val (.int u2), .val (.int j)] [(.int u2), (.int j)])) _
        refine XS.icmpNo X.here hx rfl (hb hby d3_4) rfl (tlt hc4_2).2.1 ?_
        show Steps p.tables e below (T.setTop (mkF m 7 #[.val (.ref b1), .val (.int u1), .val (.int u2), .val (.int j)] [])) _
        refine XS.aloadN X.here hx rfl (hb hby d3_7) rfl rfl ?_
        show Steps p.tables e below (T.setTop (mkF m 8 #[.val (.ref b1), .val (.int u1), .val (.int u2), .val (.int j)] [(.ref b1)])) _
        refine XS.iloadN X.here hx rfl (hb hby d3_8) rfl ?_
        show Steps p.tables e below (T.setTop (mkF m 9 #[.val (.ref b1), .val (.int u1), .val (.int u2), .val (.int j)] [(.int j), (.ref b1)])) _
        refine X.baloadBytes hx (j := j) (v := (.int (f_b1 j.toNatClampNeg))) (by rw [eT]; exact Ar_b1.1) (State.isArrayOf_alike hZ.alike Ar_b1.2.1) Ar_b1.2.2 (own_hin S_b1 hi3) (H_b1 _ hi3.2) (g := (mkF m 9 #[.val (.ref b1), .val (.int u1), .val (.int u2), .val (.int j)] [(.int j), (.ref b1)])) rfl rfl (hb hby d3_9) _ ?_
        show Steps p.tables e below (T.setTop (mkF m 10 #[.val (.ref b1), .val (.int u1), .val (.int u2), .val (.int j)] [(.int (f_b1 j.toNatClampNeg))])) _
        refine XS.bipush X.here hx rfl (hb hby d3_10) ?_
        show Steps p.tables e below (T.setTop (mkF m 12 #[.val (.ref b1), .val (.int u1), .val (.int u2), .val (.int j)] [(.int (94 : Int32)), (.int (f_b1 j.toNatClampNeg))])) _
        exact k
      by_cases hc12 : (f_b1 j.toNatClampNeg) = (94 : Int32)
      · refine own_go (b := T.setTop (mkF m 19 #[.val (.ref b1), .val (.int u1), .val (.int u2), .val (.int j)] [(.int u2), (.int (j + (1 : Int32)))])) (fun t k => ?_) ?_
        · show Steps p.tables e below (T.setTop (mkF m 12 #[.val (.ref b1), .val (.int u1), .val (.int u2), .val (.int j)] [(.int (94 : Int32)), (.int (f_b1 j.toNatClampNeg))])) _
          refine XS.icmpNo X.here hx rfl (hb hby d3_12) rfl (teq hc12).2 ?_
          show Steps p.tables e below (T.setTop (mkF m 15 #[.val (.ref b1), .val (.int u1), .val (.int u2), .val (.int j)] [])) _
          refine XS.iloadN X.here hx rfl (hb hby d3_15) rfl ?_
          show Steps p.tables e below (T.setTop (mkF m 16 #[.val (.ref b1), .val (.int u1), .val (.int u2), .val (.int j)] [(.int j)])) _
          refine XS.iconst X.here hx rfl (hb hby d3_16) ?_
          show Steps p.tables e below (T.setTop (mkF m 17 #[.val (.ref b1), .val (.int u1), .val (.int u2), .val (.int j)] [(.int (1 : Int32)), (.int j)])) _
          refine XS.iadd X.here hx rfl (hb hby d3_17) rfl ?_
          show Steps p.tables e below (T.setTop (mkF m 18 #[.val (.ref b1), .val (.int u1), .val (.int u2), .val (.int j)] [(.int (j + (1 : Int32)))])) _
          refine XS.iloadN X.here hx rfl (hb hby d3_18) rfl ?_
          show Steps p.tables e below (T.setTop (mkF m 19 #[.val (.ref b1), .val (.int u1), .val (.int u2), .val (.int j)] [(.int u2), (.int (j + (1 : Int32)))])) _
          exact k
        by_cases hc19 : (j + (1 : Int32)) = u2
        · refine own_end X Bd.notSynchronized (v := some (.int j)) (fun h => by rw [Bd.returns] at h; cases h) (fun fs hr => ?_) eT ?_ (by decide) (by decide)
          · show Steps p.tables e below (T.setTop (mkF m 19 #[.val (.ref b1), .val (.int u1), .val (.int u2), .val (.int j)] [(.int u2), (.int (j + (1 : Int32)))])) _
            refine XS.icmpYes X.here hx rfl (pc0 := 19) (pc' := 32) rfl (hb hby d3_19) rfl (teq hc19).1 (by decide) (by decide) ?_
            show Steps p.tables e below (T.setTop (mkF m 32 #[.val (.ref b1), .val (.int u1), .val (.int u2), .val (.int j)] [])) _
            refine XS.iloadN X.here hx rfl (hb hby d3_32) rfl ?_
            show Steps p.tables e below (T.setTop (mkF m 33 #[.val (.ref b1), .val (.int u1), .val (.int u2), .val (.int j)] [(.int j)])) _
            refine XS.goto X.here hx rfl (pc0 := 33) (pc' := 37) rfl (hb hby d3_33) (by decide) (by decide) ?_
            show Steps p.tables e below (T.setTop (mkF m 37 #[.val (.ref b1), .val (.int u1), .val (.int u2), .val (.int j)] [(.int j)])) _
            exact retI X hx Bd.returns (hb hby d3_37) hr
          · exact ⟨by rw [hv, own_pdeA, if_pos hc12, if_pos hc19], N, rfl⟩
        · have hi4 : ¬ (j + (1 : Int32)) < 0 ∧ (j + (1 : Int32)).toNatClampNeg < z_b1.toNatClampNeg := own_ix (by rw [own_succ i1 i3]; omega) (by have : (j + (1 : Int32)).toInt ≠ u2.toInt := fun q => hc19 (Int32.toInt_inj.mp q); rw [own_succ i1 i3] at this ⊢; omega)
          refine own_go (b := T.setTop (mkF m 29 #[.val (.ref b1), .val (.int u1), .val (.int u2), .val (.int j)] [(.int (94 : Int32)), (.int (f_b1 (j + (1 : Int32)).toNatClampNeg))])) (fun t k => ?_) ?_
          · show Steps p.tables e below (T.setTop (mkF m 19 #[.val (.ref b1), .val (.int u1), .val (.int u2), .val (.int j)] [(.int u2), (.int (j + (1 : Int32)))])) _
            refine XS.icmpNo X.here hx rfl (hb hby d3_19) rfl (feq hc19).1 ?_
            show Steps p.tables e below (T.setTop (mkF m 22 #[.val (.ref b1), .val (.int u1), .val (.int u2), .val (.int j)] [])) _
            refine XS.aloadN X.here hx rfl (hb hby d3_22) rfl rfl ?_
            show Steps p.tables e below (T.setTop (mkF m 23 #[.val (.ref b1), .val (.int u1), .val (.int u2), .val (.int j)] [(.ref b1)])) _
            refine XS.iloadN X.here hx rfl (hb hby d3_23) rfl ?_
            show Steps p.tables e below (T.setTop (mkF m 24 #[.val (.ref b1), .val (.int u1), .val (.int u2), .val (.int j)] [(.int j), (.ref b1)])) _
            refine XS.iconst X.here hx rfl (hb hby d3_24) ?_
            show Steps p.tables e below (T.setTop (mkF m 25 #[.val (.ref b1), .val (.int u1), .val (.int u2), .val (.int j)] [(.int (1 : Int32)), (.int j), (.ref b1)])) _
            refine XS.iadd X.here hx rfl (hb hby d3_25) rfl ?_
            show Steps p.tables e below (T.setTop (mkF m 26 #[.val (.ref b1), .val (.int u1), .val (.int u2), .val (.int j)] [(.int (j + (1 : Int32))), (.ref b1)])) _
            refine X.baloadBytes hx (j := (j + (1 : Int32))) (v := (.int (f_b1 (j + (1 : Int32)).toNatClampNeg))) (by rw [eT]; exact Ar_b1.1) (State.isArrayOf_alike hZ.alike Ar_b1.2.1) Ar_b1.2.2 (own_hin S_b1 hi4) (H_b1 _ hi4.2) (g := (mkF m 26 #[.val (.ref b1), .val (.int u1), .val (.int u2), .val (.int j)] [(.int (j + (1 : Int32))), (.ref b1)])) rfl rfl (hb hby d3_26) _ ?_
            show Steps p.tables e below (T.setTop (mkF m 27 #[.val (.ref b1), .val (.int u1), .val (.int u2), .val (.int j)] [(.int (f_b1 (j + (1 : Int32)).toNatClampNeg))])) _
            refine XS.bipush X.here hx rfl (hb hby d3_27) ?_
            show Steps p.tables e below (T.setTop (mkF m 29 #[.val (.ref b1), .val (.int u1), .val (.int u2), .val (.int j)] [(.int (94 : Int32)), (.int (f_b1 (j + (1 : Int32)).toNatClampNeg))])) _
            exact k
          by_cases hc29 : (f_b1 (j + (1 : Int32)).toNatClampNeg) = (94 : Int32)
          · refine own_end X Bd.notSynchronized (v := some (.int (-1 : Int32))) (fun h => by rw [Bd.returns] at h; cases h) (fun fs hr => ?_) eT ?_ (by decide) (by decide)
            · show Steps p.tables e below (T.setTop (mkF m 29 #[.val (.ref b1), .val (.int u1), .val (.int u2), .val (.int j)] [(.int (94 : Int32)), (.int (f_b1 (j + (1 : Int32)).toNatClampNeg))])) _
              refine XS.icmpYes X.here hx rfl (pc0 := 29) (pc' := 36) rfl (hb hby d3_29) rfl (teq hc29).1 (by decide) (by decide) ?_
              show Steps p.tables e below (T.setTop (mkF m 36 #[.val (.ref b1), .val (.int u1), .val (.int u2), .val (.int j)] [])) _
              refine XS.iconst X.here hx rfl (hb hby d3_36) ?_
              show Steps p.tables e below (T.setTop (mkF m 37 #[.val (.ref b1), .val (.int u1), .val (.int u2), .val (.int j)] [(.int (-1 : Int32))])) _
              exact retI X hx Bd.returns (hb hby d3_37) hr
            · exact ⟨by rw [hv, own_pdeA, if_pos hc12, if_neg hc19, if_pos hc29], N, rfl⟩
          · refine own_end X Bd.notSynchronized (v := some (.int j)) (fun h => by rw [Bd.returns] at h; cases h) (fun fs hr => ?_) eT ?_ (by decide) (by decide)
            · show Steps p.tables e below (T.setTop (mkF m 29 #[.val (.ref b1), .val (.int u1), .val (.int u2), .val (.int j)] [(.int (94 : Int32)), (.int (f_b1 (j + (1 : Int32)).toNatClampNeg))])) _
              refine XS.icmpNo X.here hx rfl (hb hby d3_29) rfl (feq hc29).1 ?_
              show Steps p.tables e below (T.setTop (mkF m 32 #[.val (.ref b1), .val (.int u1), .val (.int u2), .val (.int j)] [])) _
              refine XS.iloadN X.here hx rfl (hb hby d3_32) rfl ?_
              show Steps p.tables e below (T.setTop (mkF m 33 #[.val (.ref b1), .val (.int u1), .val (.int u2), .val (.int j)] [(.int j)])) _
              refine XS.goto X.here hx rfl (pc0 := 33) (pc' := 37) rfl (hb hby d3_33) (by decide) (by decide) ?_
              show Steps p.tables e below (T.setTop (mkF m 37 #[.val (.ref b1), .val (.int u1), .val (.int u2), .val (.int j)] [(.int j)])) _
              exact retI X hx Bd.returns (hb hby d3_37) hr
            · exact ⟨by rw [hv, own_pdeA, if_pos hc12, if_neg hc19, if_neg hc29], N, rfl⟩
      · refine own_go (b := T.setTop (mkF m 2 #[.val (.ref b1), .val (.int u1), .val (.int u2), .val (.int (j + (1 : Int32)))] [])) (fun t k => ?_) ?_
        · show Steps p.tables e below (T.setTop (mkF m 12 #[.val (.ref b1), .val (.int u1), .val (.int u2), .val (.int j)] [(.int (94 : Int32)), (.int (f_b1 j.toNatClampNeg))])) _
          refine XS.icmpYes X.here hx rfl (pc0 := 12) (pc' := 38) rfl (hb hby d3_12) rfl (feq hc12).2 (by decide) (by decide) ?_
          show Steps p.tables e below (T.setTop (mkF m 38 #[.val (.ref b1), .val (.int u1), .val (.int u2), .val (.int j)] [])) _
          refine XS.iinc X.here hx rfl (hb hby d3_38) rfl (l' := #[.val (.ref b1), .val (.int u1), .val (.int u2), .val (.int (j + (1 : Int32)))]) rfl ?_
          show Steps p.tables e below (T.setTop (mkF m 41 #[.val (.ref b1), .val (.int u1), .val (.int u2), .val (.int (j + (1 : Int32)))] [])) _
          refine XS.goto X.here hx rfl (pc0 := 41) (pc' := 2) rfl (hb hby d3_41) (by decide) (by decide) ?_
          show Steps p.tables e below (T.setTop (mkF m 2 #[.val (.ref b1), .val (.int u1), .val (.int u2), .val (.int (j + (1 : Int32)))] [])) _
          exact k
        exact ih T _ X N eT _ (by rw [own_succ i1 i3]; omega) (by rw [own_succ i1 i3]; omega) (by rw [hv, own_pdeA, if_neg hc12])
  refine own_go (b := s₁.setTop (mkF m 2 #[.val (.ref b1), .val (.int u1), .val (.int u2), .val (.int u1)] [])) (fun t k => ?_) ?_
  · show Steps p.tables e below (s₁.setTop (mkF m 0 #[.val (.ref b1), .val (.int u1), .val (.int u2), .unset] [])) _
    refine XS.iloadN X0.here hx rfl (hb hby d3_0) rfl ?_
    show Steps p.tables e below (s₁.setTop (mkF m 1 #[.val (.ref b1), .val (.int u1), .val (.int u2), .unset] [(.int u1)])) _
    refine XS.istoreN X0.here hx rfl (hb hby d3_1) rfl (l' := #[.val (.ref b1), .val (.int u1), .val (.int u2), .val (.int u1)]) rfl ?_
    show Steps p.tables e below (s₁.setTop (mkF m 2 #[.val (.ref b1), .val (.int u1), .val (.int u2), .val (.int u1)] [])) _
    exact k
  exact J2 (u2.toInt - u1.toInt).toNat s₁ _ X0 N0 e0 _ g1 (by omega) rfl
def own_e (f : Nat → Int32) (k k1 t : Int32) : Int32 := if k1 = t then k else if f k1.toNatClampNeg = (94 : Int32) then (-1 : Int32) else k
def own_exp (f : Nat → Int32) (a t : Int32) : Int32 :=
  if own_mark_0 f (0 : Int32) a t = (0 : Int32) then
    if own_mark_0 f (1 : Int32) a t = (0 : Int32) then
      if own_mark_0 f (2 : Int32) a t = (0 : Int32) then
        if own_mark_0 f (3 : Int32) a t = (0 : Int32) then
          if own_mark_0 f (4 : Int32) a t = (0 : Int32) then t else own_e f (4 : Int32) (5 : Int32) t
        else own_e f (3 : Int32) (4 : Int32) t
      else own_e f (2 : Int32) (3 : Int32) t
    else own_e f (1 : Int32) (2 : Int32) t
  else own_e f (0 : Int32) (1 : Int32) t
theorem own_fin (f : Nat → Int32) (a t : Int32) (h1 : 0 ≤ a.toInt) (h2 : a.toInt ≤ t.toInt) (h3 : t.toInt ≤ 5) : own_pde_0 f a t = own_exp f a t := by
  have ht : t = 0 ∨ t = 1 ∨ t = 2 ∨ t = 3 ∨ t = 4 ∨ t = 5 := by
    simp only [← Int32.toInt_inj, Int32.reduceToInt]; omega
  have ha : a = 0 ∨ a = 1 ∨ a = 2 ∨ a = 3 ∨ a = 4 ∨ a = 5 := by
    simp only [← Int32.toInt_inj, Int32.reduceToInt]; omega
  rcases ht with rfl | rfl | rfl | rfl | rfl | rfl <;> rcases ha with rfl | rfl | rfl | rfl | rfl | rfl <;> first
    | (exact absurd h2 (by decide))
    | (simp [own_pde_0, own_pdeA, own_exp, own_mark_0, own_e]; done)
    | (simp [own_pde_0, own_pdeA, own_exp, own_mark_0, own_e]; repeat' split <;> simp_all)
theorem own_to (x : Int32) : 0 ≤ ((x &&& (2147483647 : Int32)) % (6 : Int32)).toInt ∧ ((x &&& (2147483647 : Int32)) % (6 : Int32)).toInt ≤ 5 := by
  have h0 : 0 ≤ (x &&& (2147483647 : Int32)).toInt := by rw [Jvm.Kit.i32_mask x 2147483647 (k := 31) (by decide) (by decide)]; omega
  rw [Jvm.Kit.i32_rem_nonneg h0]
  show 0 ≤ _ % (6 : Int) ∧ _ % (6 : Int) ≤ 5
  omega
theorem own_t1 {t : Int32} (h : 0 ≤ t.toInt ∧ t.toInt ≤ 5) : (t + (1 : Int32)).toInt = t.toInt + 1 := by
  have e1 : (1 : Int32).toInt = 1 := rfl
  rw [Jvm.Kit.i32_add (by rw [e1]; omega) (by rw [e1]; omega), e1]
theorem own_tnz {t : Int32} (h : 0 ≤ t.toInt ∧ t.toInt ≤ 5) : t + (1 : Int32) ≠ 0 := by
  intro q
  have := own_t1 h
  rw [q] at this
  have e : (0 : Int32).toInt = 0 := rfl
  omega
theorem own_frm {t : Int32} (x : Int32) (h : 0 ≤ t.toInt ∧ t.toInt ≤ 5) : 0 ≤ ((x &&& (2147483647 : Int32)) % (t + (1 : Int32))).toInt ∧ ((x &&& (2147483647 : Int32)) % (t + (1 : Int32))).toInt ≤ t.toInt := by
  have h0 : 0 ≤ (x &&& (2147483647 : Int32)).toInt := by rw [Jvm.Kit.i32_mask x 2147483647 (k := 31) (by decide) (by decide)]; omega
  rw [Jvm.Kit.i32_rem_nonneg h0, own_t1 h]
  have := Int.emod_nonneg (x &&& (2147483647 : Int32)).toInt (show t.toInt + 1 ≠ 0 by omega)
  have := Int.emod_lt_of_pos (x &&& (2147483647 : Int32)).toInt (show 0 < t.toInt + 1 by omega)
  omega
theorem own_four {f : Nat → Int32} {a t : Int32} (h : 0 ≤ t.toInt ∧ t.toInt ≤ 5) (q : ¬ own_mark_0 f (4 : Int32) a t = (0 : Int32)) : (5 : Int32) = t := by
  rw [own_mark_0] at q
  by_cases h1 : (4 : Int32) < a
  · rw [if_pos h1] at q; exact absurd rfl q
  · rw [if_neg h1] at q
    by_cases h2 : (4 : Int32) < t
    · rw [Int32.lt_iff_toInt_lt] at h2
      have e4 : (4 : Int32).toInt = 4 := rfl
      exact Int32.toInt_inj.mp (show (5 : Int) = _ by omega)
    · rw [if_neg h2] at q; exact absurd rfl q
theorem pd__28JII_29B : parseMethodDescriptor "(JII)B" = some ⟨[.long, .int, .int], some .byte⟩ := by decide +kernel
theorem pd__28_5bBIII_29Z : parseMethodDescriptor "([BIII)Z" = some ⟨[(.array .byte), .int, .int, .int], some .boolean⟩ := by decide +kernel
theorem pd__28_5bBII_29I : parseMethodDescriptor "([BII)I" = some ⟨[(.array .byte), .int, .int], some .int⟩ := by decide +kernel
theorem pn_0 : plainName "com/example/fieldbook/fieldbook/FieldPlainDataEndPinLaw" = true := by first | (simp [plainName, overriddenIn]; done) | decide +kernel
theorem ef_0 (m : MethodId) (x0 : Int64) (x1 : Int32) (x2 : Int32) (x3 : Int32) : entryFrame m #[(.long x0), (.int x1), (.int x2), (.int x3)] maxLocals = mkF m 0 #[.val (.long x0), .second, .val (.int x1), .val (.int x2), .val (.int x3), .unset, .unset, .unset, .unset, .unset] [] := by first | (simp [entryFrame, mkF, argsToLocals, Value.category, maxLocals]; done) | rfl
def Q0 (p1 : Int64) (p2 : Int32) (p3 : Int32) (p4 : Int32) (h0 : Heap) (n0 : Nat) (v : Option Value) (h : Heap) (L : List Loc) : Prop := v = some (.int 1) ∧ Fr n0 L
set_option maxRecDepth 65536 in
set_option maxHeartbeats 40000000 in
theorem rm0 (l : Launch) (Z : State) (a0 : Array Value) (hw : ∀ d ∈ tables_1, d.before a0 Z = true) (ws : List Jvm.Cond) (p1 : Int64) (p2 : Int32) (p3 : Int32) (p4 : Int32) (h0 : Heap) (n0 : Nat) (Z0 : n0 ≤ h0.size)  :
    MetFree l x (head1 (Jvm.Cond.code x code maxLocals ret :: ws) room_1) (fun a U => a = #[(.long p1), (.int p2), (.int p3), (.int p4)] ∧ Z.Warmed39 U.vm ∧ U.heap = h0) (fun _ _ _ _ _ => True) (fun _ U o U' => ∃ v L, o = .returned v ∧ Q0 p1 p2 p3 p4 h0 n0 v U'.heap L ∧ FrameEnd U o U' L 16 128) := by
  refine MetFree.of_bodySF (plainFor_of_name pn_0) hisR ?_
  intro p e s m args below meth c s₁ Bd hml0 hP hK
  obtain ⟨rfl, hZ, hh⟩ := hP
  have hx := Bd.exec
  have hby := Bd.bytes
  have hml : c.maxLocals = 10 := hml0
  have hown : s.vm.findClass "com/example/fieldbook/fieldbook/FieldPlainDataEndPinLaw" = some m.cls := findClass_of_methodNamed Bd.named
  have hnm := (name_of_methodNamed Bd.named Bd.method).1
  have X0 : Stand p l e room_1 s m #[(.long p1), (.int p2), (.int p3), (.int p4)] below meth c s₁ [] 0 0 := Stand.of_body Bd
  have e0 : s₁.heap = h0 := by rw [← hh, Bd.state]; rfl
  have N0 := Fr.nil n0
  show own_Go p e below s (Q0 p1 p2 p3 p4 h0 n0) 16 128 (s₁.setTop (entryFrame m #[(.long p1), (.int p2), (.int p3), (.int p4)] maxLocals))
  refine own_go (b := s₁.setTop (mkF m 0 #[.val (.long p1), .second, .val (.int p2), .val (.int p3), .val (.int p4), .unset, .unset, .unset, .unset, .unset] [])) (fun t k => castTop (ef_0 m p1 p2 p3 p4) k) ?_
  obtain ⟨T1, h1, k1, X1, e1, E1, A1, B1, st1⟩ := newPE X0 hx hZ (hw _ (List.mem_of_getElem? (i := 0) rfl)) e0 (g := (mkF m 1 #[.val (.long p1), .second, .val (.int p2), .val (.int p3), .val (.int p4), .unset, .unset, .unset, .unset, .unset] [(.int (5 : Int32))])) rfl (hb hby at_1) rfl (by decide) (cap := 5) (by decide) (by decide) (by decide) (by decide) (ad := "[B") (by first | rfl | decide +kernel)
  obtain ⟨a1, ga1⟩ : ∃ z, z = h0.size := ⟨_, rfl⟩
  rw [← ga1] at A1 B1 st1
  have lo1 : n0 ≤ a1 := Nat.le_trans Z0 (Nat.le_of_eq ga1.symm)
  have Z1 : n0 ≤ h1.size := Nat.le_trans Z0 E1.1
  have V2 : Arv Z h1 a1 k1 .byte (5 : Int32) [(.int (0 : Int32)), (.int (0 : Int32)), (.int (0 : Int32)), (.int (0 : Int32)), (.int (0 : Int32))] (.int (0 : Int32)) := (Arv.new A1 (by decide)).pad (pad_rep [] (.int (0 : Int32)) 5)
  obtain ⟨_, _, ⟨T3, uL3, uk3, un3⟩, -, X3, ⟨Lc3, hQ3, ul3, uy3, uz3⟩, st3⟩ := Jvm.LawKit.callS X1 hx (y := (⟨"com/example/fieldbook/fieldbook/FieldPlainDataEndPinLaw", "pick", "(JII)B"⟩ : MethodName)) hown (mvT hZ (hw _ (List.mem_of_getElem? (i := 1) rfl))) (mvT hZ (hw _ (List.mem_of_getElem? (i := 2) rfl))) (mvT hZ (hw _ (List.mem_of_getElem? (i := 3) rfl))) (mvT hZ (hw _ (List.mem_of_getElem? (i := 4) rfl))) (by decide) (backOf (W := 2) (rm1 l Z a0 hw [] p1 p2 (0 : Int32) h1 n0 Z1 ) hZ (hw _ (List.mem_of_getElem? (i := 4) rfl)) (hw _ (List.mem_of_getElem? (i := 3) rfl)) (by decide) (by decide)) (g := (mkF m 11 #[.val (.long p1), .second, .val (.int p2), .val (.int p3), .val (.int p4), .val (.ref a1), .unset, .unset, .unset, .unset] [(.int (0 : Int32)), (.int p2), (.long p1), (.int (0 : Int32)), (.ref a1)])) rfl (by rw [hml]; rfl) (argsL := [(.long p1), (.int p2), (.int (0 : Int32))]) (rest := [(.int (0 : Int32)), (.ref a1)]) (lenOf pd__28JII_29B rfl) rfl (by show 2 * 0 + _ ≤ _; exact Nat.le_of_eq rfl) (hb hby at_11) (fun _ _ => ⟨rfl, e1, (by decide : 1 + 0 ≤ _), (by decide : 5 + 0 ≤ _)⟩)
  dsimp only [Pt.U, Pt.locs, Pt.cells, Pt.slots] at X3 ul3 uy3 uz3 st3 hQ3
  subst ul3 uy3 uz3
  obtain ⟨rfl, Nq3, e3⟩ := hQ3
  have N3 := Fr.app N0 Nq3
  obtain ⟨cl4, Ar4, q4, S4, M4, H4, U4⟩ := id V2
  obtain ⟨T5, h5, X5, e5, W5, st5⟩ := stB X3 hx hZ e3 Ar4 (j := (0 : Int32)) (by rw [S4]; decide) (g := (mkF m 14 #[.val (.long p1), .second, .val (.int p2), .val (.int p3), .val (.int p4), .val (.ref a1), .unset, .unset, .unset, .unset] [(.int (own_pick_0 p1 p2 (0 : Int32))), (.int (0 : Int32)), (.ref a1)])) rfl rfl (hb hby at_14)
  have N5 := Fr.snoc X5 N3 lo1
  have V6 : Arv Z h5 a1 k1 .byte (5 : Int32) [(.int (nar .byte (own_pick_0 p1 p2 (0 : Int32)))), (.int (0 : Int32)), (.int (0 : Int32)), (.int (0 : Int32)), (.int (0 : Int32))] (.int (0 : Int32)) := Arv.set Ar4 q4 S4 M4 H4 U4 (fits_nar_byte _) W5 0 rfl (by show 0 < 5; decide)
  have E7 := B1.wr W5
  have Z5 : n0 ≤ h5.size := by rw [W5.size]; exact Z1
  obtain ⟨_, _, ⟨T8, uL8, uk8, un8⟩, -, X8, ⟨Lc8, hQ8, ul8, uy8, uz8⟩, st8⟩ := Jvm.LawKit.callS X5 hx (y := (⟨"com/example/fieldbook/fieldbook/FieldPlainDataEndPinLaw", "pick", "(JII)B"⟩ : MethodName)) hown (mvT hZ (hw _ (List.mem_of_getElem? (i := 1) rfl))) (mvT hZ (hw _ (List.mem_of_getElem? (i := 2) rfl))) (mvT hZ (hw _ (List.mem_of_getElem? (i := 3) rfl))) (mvT hZ (hw _ (List.mem_of_getElem? (i := 4) rfl))) (by decide) (backOf (W := 2) (rm1 l Z a0 hw [] p1 p2 (1 : Int32) h5 n0 Z5 ) hZ (hw _ (List.mem_of_getElem? (i := 4) rfl)) (hw _ (List.mem_of_getElem? (i := 3) rfl)) (by decide) (by decide)) (g := (mkF m 21 #[.val (.long p1), .second, .val (.int p2), .val (.int p3), .val (.int p4), .val (.ref a1), .unset, .unset, .unset, .unset] [(.int (1 : Int32)), (.int p2), (.long p1), (.int (1 : Int32)), (.ref a1)])) rfl (by rw [hml]; rfl) (argsL := [(.long p1), (.int p2), (.int (1 : Int32))]) (rest := [(.int (1 : Int32)), (.ref a1)]) (lenOf pd__28JII_29B rfl) rfl (by show 2 * 0 + _ ≤ _; exact Nat.le_of_eq rfl) (hb hby at_21) (fun _ _ => ⟨rfl, e5, (by decide : 1 + 0 ≤ _), (by decide : 5 + 0 ≤ _)⟩)
  dsimp only [Pt.U, Pt.locs, Pt.cells, Pt.slots] at X8 ul8 uy8 uz8 st8 hQ8
  subst ul8 uy8 uz8
  obtain ⟨rfl, Nq8, e8⟩ := hQ8
  have N8 := Fr.app N5 Nq8
  obtain ⟨cl9, Ar9, q9, S9, M9, H9, U9⟩ := id V6
  obtain ⟨T10, h10, X10, e10, W10, st10⟩ := stB X8 hx hZ e8 Ar9 (j := (1 : Int32)) (by rw [S9]; decide) (g := (mkF m 24 #[.val (.long p1), .second, .val (.int p2), .val (.int p3), .val (.int p4), .val (.ref a1), .unset, .unset, .unset, .unset] [(.int (own_pick_0 p1 p2 (1 : Int32))), (.int (1 : Int32)), (.ref a1)])) rfl rfl (hb hby at_24)
  have N10 := Fr.snoc X10 N8 lo1
  have V11 : Arv Z h10 a1 k1 .byte (5 : Int32) [(.int (nar .byte (own_pick_0 p1 p2 (0 : Int32)))), (.int (nar .byte (own_pick_0 p1 p2 (1 : Int32)))), (.int (0 : Int32)), (.int (0 : Int32)), (.int (0 : Int32))] (.int (0 : Int32)) := Arv.set Ar9 q9 S9 M9 H9 U9 (fits_nar_byte _) W10 1 rfl (by show 1 < 5; decide)
  have E12 := E7.wr W10
  have Z10 : n0 ≤ h10.size := by rw [W10.size]; exact Z5
  obtain ⟨_, _, ⟨T13, uL13, uk13, un13⟩, -, X13, ⟨Lc13, hQ13, ul13, uy13, uz13⟩, st13⟩ := Jvm.LawKit.callS X10 hx (y := (⟨"com/example/fieldbook/fieldbook/FieldPlainDataEndPinLaw", "pick", "(JII)B"⟩ : MethodName)) hown (mvT hZ (hw _ (List.mem_of_getElem? (i := 1) rfl))) (mvT hZ (hw _ (List.mem_of_getElem? (i := 2) rfl))) (mvT hZ (hw _ (List.mem_of_getElem? (i := 3) rfl))) (mvT hZ (hw _ (List.mem_of_getElem? (i := 4) rfl))) (by decide) (backOf (W := 2) (rm1 l Z a0 hw [] p1 p2 (2 : Int32) h10 n0 Z10 ) hZ (hw _ (List.mem_of_getElem? (i := 4) rfl)) (hw _ (List.mem_of_getElem? (i := 3) rfl)) (by decide) (by decide)) (g := (mkF m 31 #[.val (.long p1), .second, .val (.int p2), .val (.int p3), .val (.int p4), .val (.ref a1), .unset, .unset, .unset, .unset] [(.int (2 : Int32)), (.int p2), (.long p1), (.int (2 : Int32)), (.ref a1)])) rfl (by rw [hml]; rfl) (argsL := [(.long p1), (.int p2), (.int (2 : Int32))]) (rest := [(.int (2 : Int32)), (.ref a1)]) (lenOf pd__28JII_29B rfl) rfl (by show 2 * 0 + _ ≤ _; exact Nat.le_of_eq rfl) (hb hby at_31) (fun _ _ => ⟨rfl, e10, (by decide : 1 + 0 ≤ _), (by decide : 5 + 0 ≤ _)⟩)
  dsimp only [Pt.U, Pt.locs, Pt.cells, Pt.slots] at X13 ul13 uy13 uz13 st13 hQ13
  subst ul13 uy13 uz13
  obtain ⟨rfl, Nq13, e13⟩ := hQ13
  have N13 := Fr.app N10 Nq13
  obtain ⟨cl14, Ar14, q14, S14, M14, H14, U14⟩ := id V11
  obtain ⟨T15, h15, X15, e15, W15, st15⟩ := stB X13 hx hZ e13 Ar14 (j := (2 : Int32)) (by rw [S14]; decide) (g := (mkF m 34 #[.val (.long p1), .second, .val (.int p2), .val (.int p3), .val (.int p4), .val (.ref a1), .unset, .unset, .unset, .unset] [(.int (own_pick_0 p1 p2 (2 : Int32))), (.int (2 : Int32)), (.ref a1)])) rfl rfl (hb hby at_34)
  have N15 := Fr.snoc X15 N13 lo1
  have V16 : Arv Z h15 a1 k1 .byte (5 : Int32) [(.int (nar .byte (own_pick_0 p1 p2 (0 : Int32)))), (.int (nar .byte (own_pick_0 p1 p2 (1 : Int32)))), (.int (nar .byte (own_pick_0 p1 p2 (2 : Int32)))), (.int (0 : Int32)), (.int (0 : Int32))] (.int (0 : Int32)) := Arv.set Ar14 q14 S14 M14 H14 U14 (fits_nar_byte _) W15 2 rfl (by show 2 < 5; decide)
  have E17 := E12.wr W15
  have Z15 : n0 ≤ h15.size := by rw [W15.size]; exact Z10
  obtain ⟨_, _, ⟨T18, uL18, uk18, un18⟩, -, X18, ⟨Lc18, hQ18, ul18, uy18, uz18⟩, st18⟩ := Jvm.LawKit.callS X15 hx (y := (⟨"com/example/fieldbook/fieldbook/FieldPlainDataEndPinLaw", "pick", "(JII)B"⟩ : MethodName)) hown (mvT hZ (hw _ (List.mem_of_getElem? (i := 1) rfl))) (mvT hZ (hw _ (List.mem_of_getElem? (i := 2) rfl))) (mvT hZ (hw _ (List.mem_of_getElem? (i := 3) rfl))) (mvT hZ (hw _ (List.mem_of_getElem? (i := 4) rfl))) (by decide) (backOf (W := 2) (rm1 l Z a0 hw [] p1 p2 (3 : Int32) h15 n0 Z15 ) hZ (hw _ (List.mem_of_getElem? (i := 4) rfl)) (hw _ (List.mem_of_getElem? (i := 3) rfl)) (by decide) (by decide)) (g := (mkF m 41 #[.val (.long p1), .second, .val (.int p2), .val (.int p3), .val (.int p4), .val (.ref a1), .unset, .unset, .unset, .unset] [(.int (3 : Int32)), (.int p2), (.long p1), (.int (3 : Int32)), (.ref a1)])) rfl (by rw [hml]; rfl) (argsL := [(.long p1), (.int p2), (.int (3 : Int32))]) (rest := [(.int (3 : Int32)), (.ref a1)]) (lenOf pd__28JII_29B rfl) rfl (by show 2 * 0 + _ ≤ _; exact Nat.le_of_eq rfl) (hb hby at_41) (fun _ _ => ⟨rfl, e15, (by decide : 1 + 0 ≤ _), (by decide : 5 + 0 ≤ _)⟩)
  dsimp only [Pt.U, Pt.locs, Pt.cells, Pt.slots] at X18 ul18 uy18 uz18 st18 hQ18
  subst ul18 uy18 uz18
  obtain ⟨rfl, Nq18, e18⟩ := hQ18
  have N18 := Fr.app N15 Nq18
  obtain ⟨cl19, Ar19, q19, S19, M19, H19, U19⟩ := id V16
  obtain ⟨T20, h20, X20, e20, W20, st20⟩ := stB X18 hx hZ e18 Ar19 (j := (3 : Int32)) (by rw [S19]; decide) (g := (mkF m 44 #[.val (.long p1), .second, .val (.int p2), .val (.int p3), .val (.int p4), .val (.ref a1), .unset, .unset, .unset, .unset] [(.int (own_pick_0 p1 p2 (3 : Int32))), (.int (3 : Int32)), (.ref a1)])) rfl rfl (hb hby at_44)
  have N20 := Fr.snoc X20 N18 lo1
  have V21 : Arv Z h20 a1 k1 .byte (5 : Int32) [(.int (nar .byte (own_pick_0 p1 p2 (0 : Int32)))), (.int (nar .byte (own_pick_0 p1 p2 (1 : Int32)))), (.int (nar .byte (own_pick_0 p1 p2 (2 : Int32)))), (.int (nar .byte (own_pick_0 p1 p2 (3 : Int32)))), (.int (0 : Int32))] (.int (0 : Int32)) := Arv.set Ar19 q19 S19 M19 H19 U19 (fits_nar_byte _) W20 3 rfl (by show 3 < 5; decide)
  have E22 := E17.wr W20
  have Z20 : n0 ≤ h20.size := by rw [W20.size]; exact Z15
  obtain ⟨_, _, ⟨T23, uL23, uk23, un23⟩, -, X23, ⟨Lc23, hQ23, ul23, uy23, uz23⟩, st23⟩ := Jvm.LawKit.callS X20 hx (y := (⟨"com/example/fieldbook/fieldbook/FieldPlainDataEndPinLaw", "pick", "(JII)B"⟩ : MethodName)) hown (mvT hZ (hw _ (List.mem_of_getElem? (i := 1) rfl))) (mvT hZ (hw _ (List.mem_of_getElem? (i := 2) rfl))) (mvT hZ (hw _ (List.mem_of_getElem? (i := 3) rfl))) (mvT hZ (hw _ (List.mem_of_getElem? (i := 4) rfl))) (by decide) (backOf (W := 2) (rm1 l Z a0 hw [] p1 p2 (4 : Int32) h20 n0 Z20 ) hZ (hw _ (List.mem_of_getElem? (i := 4) rfl)) (hw _ (List.mem_of_getElem? (i := 3) rfl)) (by decide) (by decide)) (g := (mkF m 51 #[.val (.long p1), .second, .val (.int p2), .val (.int p3), .val (.int p4), .val (.ref a1), .unset, .unset, .unset, .unset] [(.int (4 : Int32)), (.int p2), (.long p1), (.int (4 : Int32)), (.ref a1)])) rfl (by rw [hml]; rfl) (argsL := [(.long p1), (.int p2), (.int (4 : Int32))]) (rest := [(.int (4 : Int32)), (.ref a1)]) (lenOf pd__28JII_29B rfl) rfl (by show 2 * 0 + _ ≤ _; exact Nat.le_of_eq rfl) (hb hby at_51) (fun _ _ => ⟨rfl, e20, (by decide : 1 + 0 ≤ _), (by decide : 5 + 0 ≤ _)⟩)
  dsimp only [Pt.U, Pt.locs, Pt.cells, Pt.slots] at X23 ul23 uy23 uz23 st23 hQ23
  subst ul23 uy23 uz23
  obtain ⟨rfl, Nq23, e23⟩ := hQ23
  have N23 := Fr.app N20 Nq23
  obtain ⟨cl24, Ar24, q24, S24, M24, H24, U24⟩ := id V21
  obtain ⟨T25, h25, X25, e25, W25, st25⟩ := stB X23 hx hZ e23 Ar24 (j := (4 : Int32)) (by rw [S24]; decide) (g := (mkF m 54 #[.val (.long p1), .second, .val (.int p2), .val (.int p3), .val (.int p4), .val (.ref a1), .unset, .unset, .unset, .unset] [(.int (own_pick_0 p1 p2 (4 : Int32))), (.int (4 : Int32)), (.ref a1)])) rfl rfl (hb hby at_54)
  have N25 := Fr.snoc X25 N23 lo1
  have V26 : Arv Z h25 a1 k1 .byte (5 : Int32) [(.int (nar .byte (own_pick_0 p1 p2 (0 : Int32)))), (.int (nar .byte (own_pick_0 p1 p2 (1 : Int32)))), (.int (nar .byte (own_pick_0 p1 p2 (2 : Int32)))), (.int (nar .byte (own_pick_0 p1 p2 (3 : Int32)))), (.int (nar .byte (own_pick_0 p1 p2 (4 : Int32))))] (.int (0 : Int32)) := Arv.set Ar24 q24 S24 M24 H24 U24 (fits_nar_byte _) W25 4 rfl (by show 4 < 5; decide)
  have E27 := E22.wr W25
  have Z25 : n0 ≤ h25.size := by rw [W25.size]; exact Z20
  refine own_go (b := T25.setTop (mkF m 55 #[.val (.long p1), .second, .val (.int p2), .val (.int p3), .val (.int p4), .val (.ref a1), .unset, .unset, .unset, .unset] [])) (fun t k => ?_) ?_
  · show Steps p.tables e below (s₁.setTop (mkF m 0 #[.val (.long p1), .second, .val (.int p2), .val (.int p3), .val (.int p4), .unset, .unset, .unset, .unset, .unset] [])) _
    refine XS.iconst X0.here hx rfl (hb hby at_0) ?_
    show Steps p.tables e below (s₁.setTop (mkF m 1 #[.val (.long p1), .second, .val (.int p2), .val (.int p3), .val (.int p4), .unset, .unset, .unset, .unset, .unset] [(.int (5 : Int32))])) _
    refine st1 _ ?_
    show Steps p.tables e below (T1.setTop (mkF m 3 #[.val (.long p1), .second, .val (.int p2), .val (.int p3), .val (.int p4), .unset, .unset, .unset, .unset, .unset] [(.ref a1)])) _
    refine XS.astore X1.here hx rfl (hb hby at_3) rfl rfl (l' := #[.val (.long p1), .second, .val (.int p2), .val (.int p3), .val (.int p4), .val (.ref a1), .unset, .unset, .unset, .unset]) rfl ?_
    show Steps p.tables e below (T1.setTop (mkF m 5 #[.val (.long p1), .second, .val (.int p2), .val (.int p3), .val (.int p4), .val (.ref a1), .unset, .unset, .unset, .unset] [])) _
    refine XS.aload X1.here hx rfl (hb hby at_5) rfl rfl ?_
    show Steps p.tables e below (T1.setTop (mkF m 7 #[.val (.long p1), .second, .val (.int p2), .val (.int p3), .val (.int p4), .val (.ref a1), .unset, .unset, .unset, .unset] [(.ref a1)])) _
    refine XS.iconst X1.here hx rfl (hb hby at_7) ?_
    show Steps p.tables e below (T1.setTop (mkF m 8 #[.val (.long p1), .second, .val (.int p2), .val (.int p3), .val (.int p4), .val (.ref a1), .unset, .unset, .unset, .unset] [(.int (0 : Int32)), (.ref a1)])) _
    refine XS.lloadN X1.here hx rfl (hb hby at_8) rfl ?_
    show Steps p.tables e below (T1.setTop (mkF m 9 #[.val (.long p1), .second, .val (.int p2), .val (.int p3), .val (.int p4), .val (.ref a1), .unset, .unset, .unset, .unset] [(.long p1), (.int (0 : Int32)), (.ref a1)])) _
    refine XS.iloadN X1.here hx rfl (hb hby at_9) rfl ?_
    show Steps p.tables e below (T1.setTop (mkF m 10 #[.val (.long p1), .second, .val (.int p2), .val (.int p3), .val (.int p4), .val (.ref a1), .unset, .unset, .unset, .unset] [(.int p2), (.long p1), (.int (0 : Int32)), (.ref a1)])) _
    refine XS.iconst X1.here hx rfl (hb hby at_10) ?_
    show Steps p.tables e below (T1.setTop (mkF m 11 #[.val (.long p1), .second, .val (.int p2), .val (.int p3), .val (.int p4), .val (.ref a1), .unset, .unset, .unset, .unset] [(.int (0 : Int32)), (.int p2), (.long p1), (.int (0 : Int32)), (.ref a1)])) _
    refine st3 _ ?_
    show Steps p.tables e below (T3.setTop (mkF m 14 #[.val (.long p1), .second, .val (.int p2), .val (.int p3), .val (.int p4), .val (.ref a1), .unset, .unset, .unset, .unset] [(.int (own_pick_0 p1 p2 (0 : Int32))), (.int (0 : Int32)), (.ref a1)])) _
    refine st5 _ ?_
    show Steps p.tables e below (T5.setTop (mkF m 15 #[.val (.long p1), .second, .val (.int p2), .val (.int p3), .val (.int p4), .val (.ref a1), .unset, .unset, .unset, .unset] [])) _
    refine XS.aload X5.here hx rfl (hb hby at_15) rfl rfl ?_
    show Steps p.tables e below (T5.setTop (mkF m 17 #[.val (.long p1), .second, .val (.int p2), .val (.int p3), .val (.int p4), .val (.ref a1), .unset, .unset, .unset, .unset] [(.ref a1)])) _
    refine XS.iconst X5.here hx rfl (hb hby at_17) ?_
    show Steps p.tables e below (T5.setTop (mkF m 18 #[.val (.long p1), .second, .val (.int p2), .val (.int p3), .val (.int p4), .val (.ref a1), .unset, .unset, .unset, .unset] [(.int (1 : Int32)), (.ref a1)])) _
    refine XS.lloadN X5.here hx rfl (hb hby at_18) rfl ?_
    show Steps p.tables e below (T5.setTop (mkF m 19 #[.val (.long p1), .second, .val (.int p2), .val (.int p3), .val (.int p4), .val (.ref a1), .unset, .unset, .unset, .unset] [(.long p1), (.int (1 : Int32)), (.ref a1)])) _
    refine XS.iloadN X5.here hx rfl (hb hby at_19) rfl ?_
    show Steps p.tables e below (T5.setTop (mkF m 20 #[.val (.long p1), .second, .val (.int p2), .val (.int p3), .val (.int p4), .val (.ref a1), .unset, .unset, .unset, .unset] [(.int p2), (.long p1), (.int (1 : Int32)), (.ref a1)])) _
    refine XS.iconst X5.here hx rfl (hb hby at_20) ?_
    show Steps p.tables e below (T5.setTop (mkF m 21 #[.val (.long p1), .second, .val (.int p2), .val (.int p3), .val (.int p4), .val (.ref a1), .unset, .unset, .unset, .unset] [(.int (1 : Int32)), (.int p2), (.long p1), (.int (1 : Int32)), (.ref a1)])) _
    refine st8 _ ?_
    show Steps p.tables e below (T8.setTop (mkF m 24 #[.val (.long p1), .second, .val (.int p2), .val (.int p3), .val (.int p4), .val (.ref a1), .unset, .unset, .unset, .unset] [(.int (own_pick_0 p1 p2 (1 : Int32))), (.int (1 : Int32)), (.ref a1)])) _
    refine st10 _ ?_
    show Steps p.tables e below (T10.setTop (mkF m 25 #[.val (.long p1), .second, .val (.int p2), .val (.int p3), .val (.int p4), .val (.ref a1), .unset, .unset, .unset, .unset] [])) _
    refine XS.aload X10.here hx rfl (hb hby at_25) rfl rfl ?_
    show Steps p.tables e below (T10.setTop (mkF m 27 #[.val (.long p1), .second, .val (.int p2), .val (.int p3), .val (.int p4), .val (.ref a1), .unset, .unset, .unset, .unset] [(.ref a1)])) _
    refine XS.iconst X10.here hx rfl (hb hby at_27) ?_
    show Steps p.tables e below (T10.setTop (mkF m 28 #[.val (.long p1), .second, .val (.int p2), .val (.int p3), .val (.int p4), .val (.ref a1), .unset, .unset, .unset, .unset] [(.int (2 : Int32)), (.ref a1)])) _
    refine XS.lloadN X10.here hx rfl (hb hby at_28) rfl ?_
    show Steps p.tables e below (T10.setTop (mkF m 29 #[.val (.long p1), .second, .val (.int p2), .val (.int p3), .val (.int p4), .val (.ref a1), .unset, .unset, .unset, .unset] [(.long p1), (.int (2 : Int32)), (.ref a1)])) _
    refine XS.iloadN X10.here hx rfl (hb hby at_29) rfl ?_
    show Steps p.tables e below (T10.setTop (mkF m 30 #[.val (.long p1), .second, .val (.int p2), .val (.int p3), .val (.int p4), .val (.ref a1), .unset, .unset, .unset, .unset] [(.int p2), (.long p1), (.int (2 : Int32)), (.ref a1)])) _
    refine XS.iconst X10.here hx rfl (hb hby at_30) ?_
    show Steps p.tables e below (T10.setTop (mkF m 31 #[.val (.long p1), .second, .val (.int p2), .val (.int p3), .val (.int p4), .val (.ref a1), .unset, .unset, .unset, .unset] [(.int (2 : Int32)), (.int p2), (.long p1), (.int (2 : Int32)), (.ref a1)])) _
    refine st13 _ ?_
    show Steps p.tables e below (T13.setTop (mkF m 34 #[.val (.long p1), .second, .val (.int p2), .val (.int p3), .val (.int p4), .val (.ref a1), .unset, .unset, .unset, .unset] [(.int (own_pick_0 p1 p2 (2 : Int32))), (.int (2 : Int32)), (.ref a1)])) _
    refine st15 _ ?_
    show Steps p.tables e below (T15.setTop (mkF m 35 #[.val (.long p1), .second, .val (.int p2), .val (.int p3), .val (.int p4), .val (.ref a1), .unset, .unset, .unset, .unset] [])) _
    refine XS.aload X15.here hx rfl (hb hby at_35) rfl rfl ?_
    show Steps p.tables e below (T15.setTop (mkF m 37 #[.val (.long p1), .second, .val (.int p2), .val (.int p3), .val (.int p4), .val (.ref a1), .unset, .unset, .unset, .unset] [(.ref a1)])) _
    refine XS.iconst X15.here hx rfl (hb hby at_37) ?_
    show Steps p.tables e below (T15.setTop (mkF m 38 #[.val (.long p1), .second, .val (.int p2), .val (.int p3), .val (.int p4), .val (.ref a1), .unset, .unset, .unset, .unset] [(.int (3 : Int32)), (.ref a1)])) _
    refine XS.lloadN X15.here hx rfl (hb hby at_38) rfl ?_
    show Steps p.tables e below (T15.setTop (mkF m 39 #[.val (.long p1), .second, .val (.int p2), .val (.int p3), .val (.int p4), .val (.ref a1), .unset, .unset, .unset, .unset] [(.long p1), (.int (3 : Int32)), (.ref a1)])) _
    refine XS.iloadN X15.here hx rfl (hb hby at_39) rfl ?_
    show Steps p.tables e below (T15.setTop (mkF m 40 #[.val (.long p1), .second, .val (.int p2), .val (.int p3), .val (.int p4), .val (.ref a1), .unset, .unset, .unset, .unset] [(.int p2), (.long p1), (.int (3 : Int32)), (.ref a1)])) _
    refine XS.iconst X15.here hx rfl (hb hby at_40) ?_
    show Steps p.tables e below (T15.setTop (mkF m 41 #[.val (.long p1), .second, .val (.int p2), .val (.int p3), .val (.int p4), .val (.ref a1), .unset, .unset, .unset, .unset] [(.int (3 : Int32)), (.int p2), (.long p1), (.int (3 : Int32)), (.ref a1)])) _
    refine st18 _ ?_
    show Steps p.tables e below (T18.setTop (mkF m 44 #[.val (.long p1), .second, .val (.int p2), .val (.int p3), .val (.int p4), .val (.ref a1), .unset, .unset, .unset, .unset] [(.int (own_pick_0 p1 p2 (3 : Int32))), (.int (3 : Int32)), (.ref a1)])) _
    refine st20 _ ?_
    show Steps p.tables e below (T20.setTop (mkF m 45 #[.val (.long p1), .second, .val (.int p2), .val (.int p3), .val (.int p4), .val (.ref a1), .unset, .unset, .unset, .unset] [])) _
    refine XS.aload X20.here hx rfl (hb hby at_45) rfl rfl ?_
    show Steps p.tables e below (T20.setTop (mkF m 47 #[.val (.long p1), .second, .val (.int p2), .val (.int p3), .val (.int p4), .val (.ref a1), .unset, .unset, .unset, .unset] [(.ref a1)])) _
    refine XS.iconst X20.here hx rfl (hb hby at_47) ?_
    show Steps p.tables e below (T20.setTop (mkF m 48 #[.val (.long p1), .second, .val (.int p2), .val (.int p3), .val (.int p4), .val (.ref a1), .unset, .unset, .unset, .unset] [(.int (4 : Int32)), (.ref a1)])) _
    refine XS.lloadN X20.here hx rfl (hb hby at_48) rfl ?_
    show Steps p.tables e below (T20.setTop (mkF m 49 #[.val (.long p1), .second, .val (.int p2), .val (.int p3), .val (.int p4), .val (.ref a1), .unset, .unset, .unset, .unset] [(.long p1), (.int (4 : Int32)), (.ref a1)])) _
    refine XS.iloadN X20.here hx rfl (hb hby at_49) rfl ?_
    show Steps p.tables e below (T20.setTop (mkF m 50 #[.val (.long p1), .second, .val (.int p2), .val (.int p3), .val (.int p4), .val (.ref a1), .unset, .unset, .unset, .unset] [(.int p2), (.long p1), (.int (4 : Int32)), (.ref a1)])) _
    refine XS.iconst X20.here hx rfl (hb hby at_50) ?_
    show Steps p.tables e below (T20.setTop (mkF m 51 #[.val (.long p1), .second, .val (.int p2), .val (.int p3), .val (.int p4), .val (.ref a1), .unset, .unset, .unset, .unset] [(.int (4 : Int32)), (.int p2), (.long p1), (.int (4 : Int32)), (.ref a1)])) _
    refine st23 _ ?_
    show Steps p.tables e below (T23.setTop (mkF m 54 #[.val (.long p1), .second, .val (.int p2), .val (.int p3), .val (.int p4), .val (.ref a1), .unset, .unset, .unset, .unset] [(.int (own_pick_0 p1 p2 (4 : Int32))), (.int (4 : Int32)), (.ref a1)])) _
    refine st25 _ ?_
    show Steps p.tables e below (T25.setTop (mkF m 55 #[.val (.long p1), .second, .val (.int p2), .val (.int p3), .val (.int p4), .val (.ref a1), .unset, .unset, .unset, .unset] [])) _
    exact k
  obtain ⟨v0, hv0⟩ : ∃ z : Int32, z = (nar .byte (own_pick_0 p1 p2 (0 : Int32))) := ⟨_, rfl⟩
  rw [← hv0] at V26
  obtain ⟨v1, hv1⟩ : ∃ z : Int32, z = (nar .byte (own_pick_0 p1 p2 (1 : Int32))) := ⟨_, rfl⟩
  rw [← hv1] at V26
  obtain ⟨v2, hv2⟩ : ∃ z : Int32, z = (nar .byte (own_pick_0 p1 p2 (2 : Int32))) := ⟨_, rfl⟩
  rw [← hv2] at V26
  obtain ⟨v3, hv3⟩ : ∃ z : Int32, z = (nar .byte (own_pick_0 p1 p2 (3 : Int32))) := ⟨_, rfl⟩
  rw [← hv3] at V26
  obtain ⟨v4, hv4⟩ : ∃ z : Int32, z = (nar .byte (own_pick_0 p1 p2 (4 : Int32))) := ⟨_, rfl⟩
  rw [← hv4] at V26
  refine own_go (b := T25.setTop (mkF m 65 #[.val (.long p1), .second, .val (.int p2), .val (.int p3), .val (.int p4), .val (.ref a1), .val (.int ((p4 &&& (2147483647 : Int32)) % (6 : Int32))), .unset, .unset, .unset] [])) (fun t k => ?_) ?_
  · show Steps p.tables e below (T25.setTop (mkF m 55 #[.val (.long p1), .second, .val (.int p2), .val (.int p3), .val (.int p4), .val (.ref a1), .unset, .unset, .unset, .unset] [])) _
    refine XS.iload X25.here hx rfl (hb hby at_55) rfl ?_
    show Steps p.tables e below (T25.setTop (mkF m 57 #[.val (.long p1), .second, .val (.int p2), .val (.int p3), .val (.int p4), .val (.ref a1), .unset, .unset, .unset, .unset] [(.int p4)])) _
    refine X25.ldcI hx hown (mvT hZ (hw _ (List.mem_of_getElem? (i := 5) rfl))) rfl (hb hby at_57) ?_
    show Steps p.tables e below (T25.setTop (mkF m 59 #[.val (.long p1), .second, .val (.int p2), .val (.int p3), .val (.int p4), .val (.ref a1), .unset, .unset, .unset, .unset] [(.int (2147483647 : Int32)), (.int p4)])) _
    refine XS.iand X25.here hx rfl (hb hby at_59) rfl ?_
    show Steps p.tables e below (T25.setTop (mkF m 60 #[.val (.long p1), .second, .val (.int p2), .val (.int p3), .val (.int p4), .val (.ref a1), .unset, .unset, .unset, .unset] [(.int (p4 &&& (2147483647 : Int32)))])) _
    refine XS.bipush X25.here hx rfl (hb hby at_60) ?_
    show Steps p.tables e below (T25.setTop (mkF m 62 #[.val (.long p1), .second, .val (.int p2), .val (.int p3), .val (.int p4), .val (.ref a1), .unset, .unset, .unset, .unset] [(.int (6 : Int32)), (.int (p4 &&& (2147483647 : Int32)))])) _
    refine iremM X25 hx rfl (hb hby at_62) rfl (by decide) ?_
    show Steps p.tables e below (T25.setTop (mkF m 63 #[.val (.long p1), .second, .val (.int p2), .val (.int p3), .val (.int p4), .val (.ref a1), .unset, .unset, .unset, .unset] [(.int ((p4 &&& (2147483647 : Int32)) % (6 : Int32)))])) _
    refine XS.istore X25.here hx rfl (hb hby at_63) rfl (l' := #[.val (.long p1), .second, .val (.int p2), .val (.int p3), .val (.int p4), .val (.ref a1), .val (.int ((p4 &&& (2147483647 : Int32)) % (6 : Int32))), .unset, .unset, .unset]) rfl ?_
    show Steps p.tables e below (T25.setTop (mkF m 65 #[.val (.long p1), .second, .val (.int p2), .val (.int p3), .val (.int p4), .val (.ref a1), .val (.int ((p4 &&& (2147483647 : Int32)) % (6 : Int32))), .unset, .unset, .unset] [])) _
    exact k
  obtain ⟨nt, hnt⟩ : ∃ z : Int32, z = ((p4 &&& (2147483647 : Int32)) % (6 : Int32)) := ⟨_, rfl⟩
  rw [← hnt]
  have q1 : 0 ≤ nt.toInt ∧ nt.toInt ≤ 5 := by rw [hnt]; exact own_to _
  have q3 : nt.toInt ≤ (5 : Int32).toInt := q1.2
  refine own_go (b := T25.setTop (mkF m 76 #[.val (.long p1), .second, .val (.int p2), .val (.int p3), .val (.int p4), .val (.ref a1), .val (.int nt), .val (.int ((p3 &&& (2147483647 : Int32)) % (nt + (1 : Int32)))), .unset, .unset] [])) (fun t k => ?_) ?_
  · show Steps p.tables e below (T25.setTop (mkF m 65 #[.val (.long p1), .second, .val (.int p2), .val (.int p3), .val (.int p4), .val (.ref a1), .val (.int nt), .unset, .unset, .unset] [])) _
    refine XS.iloadN X25.here hx rfl (hb hby at_65) rfl ?_
    show Steps p.tables e below (T25.setTop (mkF m 66 #[.val (.long p1), .second, .val (.int p2), .val (.int p3), .val (.int p4), .val (.ref a1), .val (.int nt), .unset, .unset, .unset] [(.int p3)])) _
    refine X25.ldcI hx hown (mvT hZ (hw _ (List.mem_of_getElem? (i := 5) rfl))) rfl (hb hby at_66) ?_
    show Steps p.tables e below (T25.setTop (mkF m 68 #[.val (.long p1), .second, .val (.int p2), .val (.int p3), .val (.int p4), .val (.ref a1), .val (.int nt), .unset, .unset, .unset] [(.int (2147483647 : Int32)), (.int p3)])) _
    refine XS.iand X25.here hx rfl (hb hby at_68) rfl ?_
    show Steps p.tables e below (T25.setTop (mkF m 69 #[.val (.long p1), .second, .val (.int p2), .val (.int p3), .val (.int p4), .val (.ref a1), .val (.int nt), .unset, .unset, .unset] [(.int (p3 &&& (2147483647 : Int32)))])) _
    refine XS.iload X25.here hx rfl (hb hby at_69) rfl ?_
    show Steps p.tables e below (T25.setTop (mkF m 71 #[.val (.long p1), .second, .val (.int p2), .val (.int p3), .val (.int p4), .val (.ref a1), .val (.int nt), .unset, .unset, .unset] [(.int nt), (.int (p3 &&& (2147483647 : Int32)))])) _
    refine XS.iconst X25.here hx rfl (hb hby at_71) ?_
    show Steps p.tables e below (T25.setTop (mkF m 72 #[.val (.long p1), .second, .val (.int p2), .val (.int p3), .val (.int p4), .val (.ref a1), .val (.int nt), .unset, .unset, .unset] [(.int (1 : Int32)), (.int nt), (.int (p3 &&& (2147483647 : Int32)))])) _
    refine XS.iadd X25.here hx rfl (hb hby at_72) rfl ?_
    show Steps p.tables e below (T25.setTop (mkF m 73 #[.val (.long p1), .second, .val (.int p2), .val (.int p3), .val (.int p4), .val (.ref a1), .val (.int nt), .unset, .unset, .unset] [(.int (nt + (1 : Int32))), (.int (p3 &&& (2147483647 : Int32)))])) _
    refine iremM X25 hx rfl (hb hby at_73) rfl (own_tnz q1) ?_
    show Steps p.tables e below (T25.setTop (mkF m 74 #[.val (.long p1), .second, .val (.int p2), .val (.int p3), .val (.int p4), .val (.ref a1), .val (.int nt), .unset, .unset, .unset] [(.int ((p3 &&& (2147483647 : Int32)) % (nt + (1 : Int32))))])) _
    refine XS.istore X25.here hx rfl (hb hby at_74) rfl (l' := #[.val (.long p1), .second, .val (.int p2), .val (.int p3), .val (.int p4), .val (.ref a1), .val (.int nt), .val (.int ((p3 &&& (2147483647 : Int32)) % (nt + (1 : Int32)))), .unset, .unset]) rfl ?_
    show Steps p.tables e below (T25.setTop (mkF m 76 #[.val (.long p1), .second, .val (.int p2), .val (.int p3), .val (.int p4), .val (.ref a1), .val (.int nt), .val (.int ((p3 &&& (2147483647 : Int32)) % (nt + (1 : Int32)))), .unset, .unset] [])) _
    exact k
  obtain ⟨nf, hnf⟩ : ∃ z : Int32, z = ((p3 &&& (2147483647 : Int32)) % (nt + (1 : Int32))) := ⟨_, rfl⟩
  rw [← hnf]
  have q2 : 0 ≤ nf.toInt ∧ nf.toInt ≤ nt.toInt := by rw [hnf]; exact own_frm _ q1
  have hc81_28 : (-1 : Int32) < (0 : Int32) := (by decide)
  obtain ⟨cl29, Ar29, q29, S29, M29, H29, U29⟩ := id V26
  obtain ⟨_, _, ⟨T30, uL30, uk30, un30⟩, -, X30, ⟨Lc30, hQ30, ul30, uy30, uz30⟩, st30⟩ := Jvm.LawKit.callS X25 hx (y := (⟨"com/example/fieldbook/fieldbook/FieldPlainDataEndPinLaw", "mark", "([BIII)Z"⟩ : MethodName)) hown (mvT hZ (hw _ (List.mem_of_getElem? (i := 6) rfl))) (mvT hZ (hw _ (List.mem_of_getElem? (i := 7) rfl))) (mvT hZ (hw _ (List.mem_of_getElem? (i := 3) rfl))) (mvT hZ (hw _ (List.mem_of_getElem? (i := 8) rfl))) (by decide) (backOf (W := 0) (rm2 l Z a0 hw [] a1 cl29 (fun i => ([v0, v1, v2, v3, v4] : List Int32).getD i 0) (5 : Int32) (0 : Int32) nf nt h25 n0 Z25 Ar29 S29 M29 (own_has (xs := ([v0, v1, v2, v3, v4] : List Int32)) H29 S29) (by decide)) hZ (hw _ (List.mem_of_getElem? (i := 8) rfl)) (hw _ (List.mem_of_getElem? (i := 3) rfl)) (by decide) (by decide)) (g := (mkF m 91 #[.val (.long p1), .second, .val (.int p2), .val (.int p3), .val (.int p4), .val (.ref a1), .val (.int nt), .val (.int nf), .val (.int (-1 : Int32)), .unset] [(.int nt), (.int nf), (.int (0 : Int32)), (.ref a1)])) rfl (by rw [hml]; rfl) (argsL := [(.ref a1), (.int (0 : Int32)), (.int nf), (.int nt)]) (rest := []) (lenOf pd__28_5bBIII_29Z rfl) rfl (by show 2 * 0 + _ ≤ _; exact Nat.le_of_eq rfl) (hb hby at_91) (fun _ _ => ⟨rfl, e25, (by decide : 1 + 0 ≤ _), (by decide : 5 + 0 ≤ _)⟩)
  dsimp only [Pt.U, Pt.locs, Pt.cells, Pt.slots] at X30 ul30 uy30 uz30 st30 hQ30
  subst ul30 uy30 uz30
  obtain ⟨rfl, Nq30, e30⟩ := hQ30
  have N30 := Fr.app N25 Nq30
  refine own_go (b := T30.setTop (mkF m 94 #[.val (.long p1), .second, .val (.int p2), .val (.int p3), .val (.int p4), .val (.ref a1), .val (.int nt), .val (.int nf), .val (.int (-1 : Int32)), .unset] [(.int (own_mark_0 (fun i => ([v0, v1, v2, v3, v4] : List Int32).getD i 0) (0 : Int32) nf nt))])) (fun t k => ?_) ?_
  · show Steps p.tables e below (T25.setTop (mkF m 76 #[.val (.long p1), .second, .val (.int p2), .val (.int p3), .val (.int p4), .val (.ref a1), .val (.int nt), .val (.int nf), .unset, .unset] [])) _
    refine XS.iconst X25.here hx rfl (hb hby at_76) ?_
    show Steps p.tables e below (T25.setTop (mkF m 77 #[.val (.long p1), .second, .val (.int p2), .val (.int p3), .val (.int p4), .val (.ref a1), .val (.int nt), .val (.int nf), .unset, .unset] [(.int (-1 : Int32))])) _
    refine XS.istore X25.here hx rfl (hb hby at_77) rfl (l' := #[.val (.long p1), .second, .val (.int p2), .val (.int p3), .val (.int p4), .val (.ref a1), .val (.int nt), .val (.int nf), .val (.int (-1 : Int32)), .unset]) rfl ?_
    show Steps p.tables e below (T25.setTop (mkF m 79 #[.val (.long p1), .second, .val (.int p2), .val (.int p3), .val (.int p4), .val (.ref a1), .val (.int nt), .val (.int nf), .val (.int (-1 : Int32)), .unset] [])) _
    refine XS.iload X25.here hx rfl (hb hby at_79) rfl ?_
    show Steps p.tables e below (T25.setTop (mkF m 81 #[.val (.long p1), .second, .val (.int p2), .val (.int p3), .val (.int p4), .val (.ref a1), .val (.int nt), .val (.int nf), .val (.int (-1 : Int32)), .unset] [(.int (-1 : Int32))])) _
    refine XS.ifNo X25.here hx rfl (hb hby at_81) rfl ((if0 _ _).trans (tlt hc81_28).2.1) ?_
    show Steps p.tables e below (T25.setTop (mkF m 84 #[.val (.long p1), .second, .val (.int p2), .val (.int p3), .val (.int p4), .val (.ref a1), .val (.int nt), .val (.int nf), .val (.int (-1 : Int32)), .unset] [])) _
    refine XS.aload X25.here hx rfl (hb hby at_84) rfl rfl ?_
    show Steps p.tables e below (T25.setTop (mkF m 86 #[.val (.long p1), .second, .val (.int p2), .val (.int p3), .val (.int p4), .val (.ref a1), .val (.int nt), .val (.int nf), .val (.int (-1 : Int32)), .unset] [(.ref a1)])) _
    refine XS.iconst X25.here hx rfl (hb hby at_86) ?_
    show Steps p.tables e below (T25.setTop (mkF m 87 #[.val (.long p1), .second, .val (.int p2), .val (.int p3), .val (.int p4), .val (.ref a1), .val (.int nt), .val (.int nf), .val (.int (-1 : Int32)), .unset] [(.int (0 : Int32)), (.ref a1)])) _
    refine XS.iload X25.here hx rfl (hb hby at_87) rfl ?_
    show Steps p.tables e below (T25.setTop (mkF m 89 #[.val (.long p1), .second, .val (.int p2), .val (.int p3), .val (.int p4), .val (.ref a1), .val (.int nt), .val (.int nf), .val (.int (-1 : Int32)), .unset] [(.int nf), (.int (0 : Int32)), (.ref a1)])) _
    refine XS.iload X25.here hx rfl (hb hby at_89) rfl ?_
    show Steps p.tables e below (T25.setTop (mkF m 91 #[.val (.long p1), .second, .val (.int p2), .val (.int p3), .val (.int p4), .val (.ref a1), .val (.int nt), .val (.int nf), .val (.int (-1 : Int32)), .unset] [(.int nt), (.int nf), (.int (0 : Int32)), (.ref a1)])) _
    refine st30 _ ?_
    show Steps p.tables e below (T30.setTop (mkF m 94 #[.val (.long p1), .second, .val (.int p2), .val (.int p3), .val (.int p4), .val (.ref a1), .val (.int nt), .val (.int nf), .val (.int (-1 : Int32)), .unset] [(.int (own_mark_0 (fun i => ([v0, v1, v2, v3, v4] : List Int32).getD i 0) (0 : Int32) nf nt))])) _
    exact k
  by_cases hc94 : (own_mark_0 (fun i => ([v0, v1, v2, v3, v4] : List Int32).getD i 0) (0 : Int32) nf nt) = (0 : Int32)
  · have hc102_31 : (-1 : Int32) < (0 : Int32) := (by decide)
    obtain ⟨_, _, ⟨T32, uL32, uk32, un32⟩, -, X32, ⟨Lc32, hQ32, ul32, uy32, uz32⟩, st32⟩ := Jvm.LawKit.callS X30 hx (y := (⟨"com/example/fieldbook/fieldbook/FieldPlainDataEndPinLaw", "mark", "([BIII)Z"⟩ : MethodName)) hown (mvT hZ (hw _ (List.mem_of_getElem? (i := 6) rfl))) (mvT hZ (hw _ (List.mem_of_getElem? (i := 7) rfl))) (mvT hZ (hw _ (List.mem_of_getElem? (i := 3) rfl))) (mvT hZ (hw _ (List.mem_of_getElem? (i := 8) rfl))) (by decide) (backOf (W := 0) (rm2 l Z a0 hw [] a1 cl29 (fun i => ([v0, v1, v2, v3, v4] : List Int32).getD i 0) (5 : Int32) (1 : Int32) nf nt h25 n0 Z25 Ar29 S29 M29 (own_has (xs := ([v0, v1, v2, v3, v4] : List Int32)) H29 S29) (by decide)) hZ (hw _ (List.mem_of_getElem? (i := 8) rfl)) (hw _ (List.mem_of_getElem? (i := 3) rfl)) (by decide) (by decide)) (g := (mkF m 112 #[.val (.long p1), .second, .val (.int p2), .val (.int p3), .val (.int p4), .val (.ref a1), .val (.int nt), .val (.int nf), .val (.int (-1 : Int32)), .unset] [(.int nt), (.int nf), (.int (1 : Int32)), (.ref a1)])) rfl (by rw [hml]; rfl) (argsL := [(.ref a1), (.int (1 : Int32)), (.int nf), (.int nt)]) (rest := []) (lenOf pd__28_5bBIII_29Z rfl) rfl (by show 2 * 0 + _ ≤ _; exact Nat.le_of_eq rfl) (hb hby at_112) (fun _ _ => ⟨rfl, e30, (by decide : 1 + 0 ≤ _), (by decide : 5 + 0 ≤ _)⟩)
    dsimp only [Pt.U, Pt.locs, Pt.cells, Pt.slots] at X32 ul32 uy32 uz32 st32 hQ32
    subst ul32 uy32 uz32
    obtain ⟨rfl, Nq32, e32⟩ := hQ32
    have N32 := Fr.app N30 Nq32
    refine own_go (b := T32.setTop (mkF m 115 #[.val (.long p1), .second, .val (.int p2), .val (.int p3), .val (.int p4), .val (.ref a1), .val (.int nt), .val (.int nf), .val (.int (-1 : Int32)), .unset] [(.int (own_mark_0 (fun i => ([v0, v1, v2, v3, v4] : List Int32).getD i 0) (1 : Int32) nf nt))])) (fun t k => ?_) ?_
    · show Steps p.tables e below (T30.setTop (mkF m 94 #[.val (.long p1), .second, .val (.int p2), .val (.int p3), .val (.int p4), .val (.ref a1), .val (.int nt), .val (.int nf), .val (.int (-1 : Int32)), .unset] [(.int (own_mark_0 (fun i => ([v0, v1, v2, v3, v4] : List Int32).getD i 0) (0 : Int32) nf nt))])) _
      refine XS.ifYes X30.here hx rfl (pc0 := 94) (pc' := 100) rfl (hb hby at_94) rfl ((if0 _ _).trans (teq hc94).1) (by decide) (by decide) ?_
      show Steps p.tables e below (T30.setTop (mkF m 100 #[.val (.long p1), .second, .val (.int p2), .val (.int p3), .val (.int p4), .val (.ref a1), .val (.int nt), .val (.int nf), .val (.int (-1 : Int32)), .unset] [])) _
      refine XS.iload X30.here hx rfl (hb hby at_100) rfl ?_
      show Steps p.tables e below (T30.setTop (mkF m 102 #[.val (.long p1), .second, .val (.int p2), .val (.int p3), .val (.int p4), .val (.ref a1), .val (.int nt), .val (.int nf), .val (.int (-1 : Int32)), .unset] [(.int (-1 : Int32))])) _
      refine XS.ifNo X30.here hx rfl (hb hby at_102) rfl ((if0 _ _).trans (tlt hc102_31).2.1) ?_
      show Steps p.tables e below (T30.setTop (mkF m 105 #[.val (.long p1), .second, .val (.int p2), .val (.int p3), .val (.int p4), .val (.ref a1), .val (.int nt), .val (.int nf), .val (.int (-1 : Int32)), .unset] [])) _
      refine XS.aload X30.here hx rfl (hb hby at_105) rfl rfl ?_
      show Steps p.tables e below (T30.setTop (mkF m 107 #[.val (.long p1), .second, .val (.int p2), .val (.int p3), .val (.int p4), .val (.ref a1), .val (.int nt), .val (.int nf), .val (.int (-1 : Int32)), .unset] [(.ref a1)])) _
      refine XS.iconst X30.here hx rfl (hb hby at_107) ?_
      show Steps p.tables e below (T30.setTop (mkF m 108 #[.val (.long p1), .second, .val (.int p2), .val (.int p3), .val (.int p4), .val (.ref a1), .val (.int nt), .val (.int nf), .val (.int (-1 : Int32)), .unset] [(.int (1 : Int32)), (.ref a1)])) _
      refine XS.iload X30.here hx rfl (hb hby at_108) rfl ?_
      show Steps p.tables e below (T30.setTop (mkF m 110 #[.val (.long p1), .second, .val (.int p2), .val (.int p3), .val (.int p4), .val (.ref a1), .val (.int nt), .val (.int nf), .val (.int (-1 : Int32)), .unset] [(.int nf), (.int (1 : Int32)), (.ref a1)])) _
      refine XS.iload X30.here hx rfl (hb hby at_110) rfl ?_
      show Steps p.tables e below (T30.setTop (mkF m 112 #[.val (.long p1), .second, .val (.int p2), .val (.int p3), .val (.int p4), .val (.ref a1), .val (.int nt), .val (.int nf), .val (.int (-1 : Int32)), .unset] [(.int nt), (.int nf), (.int (1 : Int32)), (.ref a1)])) _
      refine st32 _ ?_
      show Steps p.tables e below (T32.setTop (mkF m 115 #[.val (.long p1), .second, .val (.int p2), .val (.int p3), .val (.int p4), .val (.ref a1), .val (.int nt), .val (.int nf), .val (.int (-1 : Int32)), .unset] [(.int (own_mark_0 (fun i => ([v0, v1, v2, v3, v4] : List Int32).getD i 0) (1 : Int32) nf nt))])) _
      exact k
    by_cases hc115 : (own_mark_0 (fun i => ([v0, v1, v2, v3, v4] : List Int32).getD i 0) (1 : Int32) nf nt) = (0 : Int32)
    · have hc123_33 : (-1 : Int32) < (0 : Int32) := (by decide)
      obtain ⟨_, _, ⟨T34, uL34, uk34, un34⟩, -, X34, ⟨Lc34, hQ34, ul34, uy34, uz34⟩, st34⟩ := Jvm.LawKit.callS X32 hx (y := (⟨"com/example/fieldbook/fieldbook/FieldPlainDataEndPinLaw", "mark", "([BIII)Z"⟩ : MethodName)) hown (mvT hZ (hw _ (List.mem_of_getElem? (i := 6) rfl))) (mvT hZ (hw _ (List.mem_of_getElem? (i := 7) rfl))) (mvT hZ (hw _ (List.mem_of_getElem? (i := 3) rfl))) (mvT hZ (hw _ (List.mem_of_getElem? (i := 8) rfl))) (by decide) (backOf (W := 0) (rm2 l Z a0 hw [] a1 cl29 (fun i => ([v0, v1, v2, v3, v4] : List Int32).getD i 0) (5 : Int32) (2 : Int32) nf nt h25 n0 Z25 Ar29 S29 M29 (own_has (xs := ([v0, v1, v2, v3, v4] : List Int32)) H29 S29) (by decide)) hZ (hw _ (List.mem_of_getElem? (i := 8) rfl)) (hw _ (List.mem_of_getElem? (i := 3) rfl)) (by decide) (by decide)) (g := (mkF m 133 #[.val (.long p1), .second, .val (.int p2), .val (.int p3), .val (.int p4), .val (.ref a1), .val (.int nt), .val (.int nf), .val (.int (-1 : Int32)), .unset] [(.int nt), (.int nf), (.int (2 : Int32)), (.ref a1)])) rfl (by rw [hml]; rfl) (argsL := [(.ref a1), (.int (2 : Int32)), (.int nf), (.int nt)]) (rest := []) (lenOf pd__28_5bBIII_29Z rfl) rfl (by show 2 * 0 + _ ≤ _; exact Nat.le_of_eq rfl) (hb hby at_133) (fun _ _ => ⟨rfl, e32, (by decide : 1 + 0 ≤ _), (by decide : 5 + 0 ≤ _)⟩)
      dsimp only [Pt.U, Pt.locs, Pt.cells, Pt.slots] at X34 ul34 uy34 uz34 st34 hQ34
      subst ul34 uy34 uz34
      obtain ⟨rfl, Nq34, e34⟩ := hQ34
      have N34 := Fr.app N32 Nq34
      refine own_go (b := T34.setTop (mkF m 136 #[.val (.long p1), .second, .val (.int p2), .val (.int p3), .val (.int p4), .val (.ref a1), .val (.int nt), .val (.int nf), .val (.int (-1 : Int32)), .unset] [(.int (own_mark_0 (fun i => ([v0, v1, v2, v3, v4] : List Int32).getD i 0) (2 : Int32) nf nt))])) (fun t k => ?_) ?_
      · show Steps p.tables e below (T32.setTop (mkF m 115 #[.val (.long p1), .second, .val (.int p2), .val (.int p3), .val (.int p4), .val (.ref a1), .val (.int nt), .val (.int nf), .val (.int (-1 : Int32)), .unset] [(.int (own_mark_0 (fun i => ([v0, v1, v2, v3, v4] : List Int32).getD i 0) (1 : Int32) nf nt))])) _
        refine XS.ifYes X32.here hx rfl (pc0 := 115) (pc' := 121) rfl (hb hby at_115) rfl ((if0 _ _).trans (teq hc115).1) (by decide) (by decide) ?_
        show Steps p.tables e below (T32.setTop (mkF m 121 #[.val (.long p1), .second, .val (.int p2), .val (.int p3), .val (.int p4), .val (.ref a1), .val (.int nt), .val (.int nf), .val (.int (-1 : Int32)), .unset] [])) _
        refine XS.iload X32.here hx rfl (hb hby at_121) rfl ?_
        show Steps p.tables e below (T32.setTop (mkF m 123 #[.val (.long p1), .second, .val (.int p2), .val (.int p3), .val (.int p4), .val (.ref a1), .val (.int nt), .val (.int nf), .val (.int (-1 : Int32)), .unset] [(.int (-1 : Int32))])) _
        refine XS.ifNo X32.here hx rfl (hb hby at_123) rfl ((if0 _ _).trans (tlt hc123_33).2.1) ?_
        show Steps p.tables e below (T32.setTop (mkF m 126 #[.val (.long p1), .second, .val (.int p2), .val (.int p3), .val (.int p4), .val (.ref a1), .val (.int nt), .val (.int nf), .val (.int (-1 : Int32)), .unset] [])) _
        refine XS.aload X32.here hx rfl (hb hby at_126) rfl rfl ?_
        show Steps p.tables e below (T32.setTop (mkF m 128 #[.val (.long p1), .second, .val (.int p2), .val (.int p3), .val (.int p4), .val (.ref a1), .val (.int nt), .val (.int nf), .val (.int (-1 : Int32)), .unset] [(.ref a1)])) _
        refine XS.iconst X32.here hx rfl (hb hby at_128) ?_
        show Steps p.tables e below (T32.setTop (mkF m 129 #[.val (.long p1), .second, .val (.int p2), .val (.int p3), .val (.int p4), .val (.ref a1), .val (.int nt), .val (.int nf), .val (.int (-1 : Int32)), .unset] [(.int (2 : Int32)), (.ref a1)])) _
        refine XS.iload X32.here hx rfl (hb hby at_129) rfl ?_
        show Steps p.tables e below (T32.setTop (mkF m 131 #[.val (.long p1), .second, .val (.int p2), .val (.int p3), .val (.int p4), .val (.ref a1), .val (.int nt), .val (.int nf), .val (.int (-1 : Int32)), .unset] [(.int nf), (.int (2 : Int32)), (.ref a1)])) _
        refine XS.iload X32.here hx rfl (hb hby at_131) rfl ?_
        show Steps p.tables e below (T32.setTop (mkF m 133 #[.val (.long p1), .second, .val (.int p2), .val (.int p3), .val (.int p4), .val (.ref a1), .val (.int nt), .val (.int nf), .val (.int (-1 : Int32)), .unset] [(.int nt), (.int nf), (.int (2 : Int32)), (.ref a1)])) _
        refine st34 _ ?_
        show Steps p.tables e below (T34.setTop (mkF m 136 #[.val (.long p1), .second, .val (.int p2), .val (.int p3), .val (.int p4), .val (.ref a1), .val (.int nt), .val (.int nf), .val (.int (-1 : Int32)), .unset] [(.int (own_mark_0 (fun i => ([v0, v1, v2, v3, v4] : List Int32).getD i 0) (2 : Int32) nf nt))])) _
        exact k
      by_cases hc136 : (own_mark_0 (fun i => ([v0, v1, v2, v3, v4] : List Int32).getD i 0) (2 : Int32) nf nt) = (0 : Int32)
      · have hc144_35 : (-1 : Int32) < (0 : Int32) := (by decide)
        obtain ⟨_, _, ⟨T36, uL36, uk36, un36⟩, -, X36, ⟨Lc36, hQ36, ul36, uy36, uz36⟩, st36⟩ := Jvm.LawKit.callS X34 hx (y := (⟨"com/example/fieldbook/fieldbook/FieldPlainDataEndPinLaw", "mark", "([BIII)Z"⟩ : MethodName)) hown (mvT hZ (hw _ (List.mem_of_getElem? (i := 6) rfl))) (mvT hZ (hw _ (List.mem_of_getElem? (i := 7) rfl))) (mvT hZ (hw _ (List.mem_of_getElem? (i := 3) rfl))) (mvT hZ (hw _ (List.mem_of_getElem? (i := 8) rfl))) (by decide) (backOf (W := 0) (rm2 l Z a0 hw [] a1 cl29 (fun i => ([v0, v1, v2, v3, v4] : List Int32).getD i 0) (5 : Int32) (3 : Int32) nf nt h25 n0 Z25 Ar29 S29 M29 (own_has (xs := ([v0, v1, v2, v3, v4] : List Int32)) H29 S29) (by decide)) hZ (hw _ (List.mem_of_getElem? (i := 8) rfl)) (hw _ (List.mem_of_getElem? (i := 3) rfl)) (by decide) (by decide)) (g := (mkF m 154 #[.val (.long p1), .second, .val (.int p2), .val (.int p3), .val (.int p4), .val (.ref a1), .val (.int nt), .val (.int nf), .val (.int (-1 : Int32)), .unset] [(.int nt), (.int nf), (.int (3 : Int32)), (.ref a1)])) rfl (by rw [hml]; rfl) (argsL := [(.ref a1), (.int (3 : Int32)), (.int nf), (.int nt)]) (rest := []) (lenOf pd__28_5bBIII_29Z rfl) rfl (by show 2 * 0 + _ ≤ _; exact Nat.le_of_eq rfl) (hb hby at_154) (fun _ _ => ⟨rfl, e34, (by decide : 1 + 0 ≤ _), (by decide : 5 + 0 ≤ _)⟩)
        dsimp only [Pt.U, Pt.locs, Pt.cells, Pt.slots] at X36 ul36 uy36 uz36 st36 hQ36
        subst ul36 uy36 uz36
        obtain ⟨rfl, Nq36, e36⟩ := hQ36
        have N36 := Fr.app N34 Nq36
        refine own_go (b := T36.setTop (mkF m 157 #[.val (.long p1), .second, .val (.int p2), .val (.int p3), .val (.int p4), .val (.ref a1), .val (.int nt), .val (.int nf), .val (.int (-1 : Int32)), .unset] [(.int (own_mark_0 (fun i => ([v0, v1, v2, v3, v4] : List Int32).getD i 0) (3 : Int32) nf nt))])) (fun t k => ?_) ?_
        · show Steps p.tables e below (T34.setTop (mkF m 136 #[.val (.long p1), .second, .val (.int p2), .val (.int p3), .val (.int p4), .val (.ref a1), .val (.int nt), .val (.int nf), .val (.int (-1 : Int32)), .unset] [(.int (own_mark_0 (fun i => ([v0, v1, v2, v3, v4] : List Int32).getD i 0) (2 : Int32) nf nt))])) _
          refine XS.ifYes X34.here hx rfl (pc0 := 136) (pc' := 142) rfl (hb hby at_136) rfl ((if0 _ _).trans (teq hc136).1) (by decide) (by decide) ?_
          show Steps p.tables e below (T34.setTop (mkF m 142 #[.val (.long p1), .second, .val (.int p2), .val (.int p3), .val (.int p4), .val (.ref a1), .val (.int nt), .val (.int nf), .val (.int (-1 : Int32)), .unset] [])) _
          refine XS.iload X34.here hx rfl (hb hby at_142) rfl ?_
          show Steps p.tables e below (T34.setTop (mkF m 144 #[.val (.long p1), .second, .val (.int p2), .val (.int p3), .val (.int p4), .val (.ref a1), .val (.int nt), .val (.int nf), .val (.int (-1 : Int32)), .unset] [(.int (-1 : Int32))])) _
          refine XS.ifNo X34.here hx rfl (hb hby at_144) rfl ((if0 _ _).trans (tlt hc144_35).2.1) ?_
          show Steps p.tables e below (T34.setTop (mkF m 147 #[.val (.long p1), .second, .val (.int p2), .val (.int p3), .val (.int p4), .val (.ref a1), .val (.int nt), .val (.int nf), .val (.int (-1 : Int32)), .unset] [])) _
          refine XS.aload X34.here hx rfl (hb hby at_147) rfl rfl ?_
          show Steps p.tables e below (T34.setTop (mkF m 149 #[.val (.long p1), .second, .val (.int p2), .val (.int p3), .val (.int p4), .val (.ref a1), .val (.int nt), .val (.int nf), .val (.int (-1 : Int32)), .unset] [(.ref a1)])) _
          refine XS.iconst X34.here hx rfl (hb hby at_149) ?_
          show Steps p.tables e below (T34.setTop (mkF m 150 #[.val (.long p1), .second, .val (.int p2), .val (.int p3), .val (.int p4), .val (.ref a1), .val (.int nt), .val (.int nf), .val (.int (-1 : Int32)), .unset] [(.int (3 : Int32)), (.ref a1)])) _
          refine XS.iload X34.here hx rfl (hb hby at_150) rfl ?_
          show Steps p.tables e below (T34.setTop (mkF m 152 #[.val (.long p1), .second, .val (.int p2), .val (.int p3), .val (.int p4), .val (.ref a1), .val (.int nt), .val (.int nf), .val (.int (-1 : Int32)), .unset] [(.int nf), (.int (3 : Int32)), (.ref a1)])) _
          refine XS.iload X34.here hx rfl (hb hby at_152) rfl ?_
          show Steps p.tables e below (T34.setTop (mkF m 154 #[.val (.long p1), .second, .val (.int p2), .val (.int p3), .val (.int p4), .val (.ref a1), .val (.int nt), .val (.int nf), .val (.int (-1 : Int32)), .unset] [(.int nt), (.int nf), (.int (3 : Int32)), (.ref a1)])) _
          refine st36 _ ?_
          show Steps p.tables e below (T36.setTop (mkF m 157 #[.val (.long p1), .second, .val (.int p2), .val (.int p3), .val (.int p4), .val (.ref a1), .val (.int nt), .val (.int nf), .val (.int (-1 : Int32)), .unset] [(.int (own_mark_0 (fun i => ([v0, v1, v2, v3, v4] : List Int32).getD i 0) (3 : Int32) nf nt))])) _
          exact k
        by_cases hc157 : (own_mark_0 (fun i => ([v0, v1, v2, v3, v4] : List Int32).getD i 0) (3 : Int32) nf nt) = (0 : Int32)
        · have hc165_37 : (-1 : Int32) < (0 : Int32) := (by decide)
          obtain ⟨_, _, ⟨T38, uL38, uk38, un38⟩, -, X38, ⟨Lc38, hQ38, ul38, uy38, uz38⟩, st38⟩ := Jvm.LawKit.callS X36 hx (y := (⟨"com/example/fieldbook/fieldbook/FieldPlainDataEndPinLaw", "mark", "([BIII)Z"⟩ : MethodName)) hown (mvT hZ (hw _ (List.mem_of_getElem? (i := 6) rfl))) (mvT hZ (hw _ (List.mem_of_getElem? (i := 7) rfl))) (mvT hZ (hw _ (List.mem_of_getElem? (i := 3) rfl))) (mvT hZ (hw _ (List.mem_of_getElem? (i := 8) rfl))) (by decide) (backOf (W := 0) (rm2 l Z a0 hw [] a1 cl29 (fun i => ([v0, v1, v2, v3, v4] : List Int32).getD i 0) (5 : Int32) (4 : Int32) nf nt h25 n0 Z25 Ar29 S29 M29 (own_has (xs := ([v0, v1, v2, v3, v4] : List Int32)) H29 S29) (by decide)) hZ (hw _ (List.mem_of_getElem? (i := 8) rfl)) (hw _ (List.mem_of_getElem? (i := 3) rfl)) (by decide) (by decide)) (g := (mkF m 175 #[.val (.long p1), .second, .val (.int p2), .val (.int p3), .val (.int p4), .val (.ref a1), .val (.int nt), .val (.int nf), .val (.int (-1 : Int32)), .unset] [(.int nt), (.int nf), (.int (4 : Int32)), (.ref a1)])) rfl (by rw [hml]; rfl) (argsL := [(.ref a1), (.int (4 : Int32)), (.int nf), (.int nt)]) (rest := []) (lenOf pd__28_5bBIII_29Z rfl) rfl (by show 2 * 0 + _ ≤ _; exact Nat.le_of_eq rfl) (hb hby at_175) (fun _ _ => ⟨rfl, e36, (by decide : 1 + 0 ≤ _), (by decide : 5 + 0 ≤ _)⟩)
          dsimp only [Pt.U, Pt.locs, Pt.cells, Pt.slots] at X38 ul38 uy38 uz38 st38 hQ38
          subst ul38 uy38 uz38
          obtain ⟨rfl, Nq38, e38⟩ := hQ38
          have N38 := Fr.app N36 Nq38
          refine own_go (b := T38.setTop (mkF m 178 #[.val (.long p1), .second, .val (.int p2), .val (.int p3), .val (.int p4), .val (.ref a1), .val (.int nt), .val (.int nf), .val (.int (-1 : Int32)), .unset] [(.int (own_mark_0 (fun i => ([v0, v1, v2, v3, v4] : List Int32).getD i 0) (4 : Int32) nf nt))])) (fun t k => ?_) ?_
          · show Steps p.tables e below (T36.setTop (mkF m 157 #[.val (.long p1), .second, .val (.int p2), .val (.int p3), .val (.int p4), .val (.ref a1), .val (.int nt), .val (.int nf), .val (.int (-1 : Int32)), .unset] [(.int (own_mark_0 (fun i => ([v0, v1, v2, v3, v4] : List Int32).getD i 0) (3 : Int32) nf nt))])) _
            refine XS.ifYes X36.here hx rfl (pc0 := 157) (pc' := 163) rfl (hb hby at_157) rfl ((if0 _ _).trans (teq hc157).1) (by decide) (by decide) ?_
            show Steps p.tables e below (T36.setTop (mkF m 163 #[.val (.long p1), .second, .val (.int p2), .val (.int p3), .val (.int p4), .val (.ref a1), .val (.int nt), .val (.int nf), .val (.int (-1 : Int32)), .unset] [])) _
            refine XS.iload X36.here hx rfl (hb hby at_163) rfl ?_
            show Steps p.tables e below (T36.setTop (mkF m 165 #[.val (.long p1), .second, .val (.int p2), .val (.int p3), .val (.int p4), .val (.ref a1), .val (.int nt), .val (.int nf), .val (.int (-1 : Int32)), .unset] [(.int (-1 : Int32))])) _
            refine XS.ifNo X36.here hx rfl (hb hby at_165) rfl ((if0 _ _).trans (tlt hc165_37).2.1) ?_
            show Steps p.tables e below (T36.setTop (mkF m 168 #[.val (.long p1), .second, .val (.int p2), .val (.int p3), .val (.int p4), .val (.ref a1), .val (.int nt), .val (.int nf), .val (.int (-1 : Int32)), .unset] [])) _
            refine XS.aload X36.here hx rfl (hb hby at_168) rfl rfl ?_
            show Steps p.tables e below (T36.setTop (mkF m 170 #[.val (.long p1), .second, .val (.int p2), .val (.int p3), .val (.int p4), .val (.ref a1), .val (.int nt), .val (.int nf), .val (.int (-1 : Int32)), .unset] [(.ref a1)])) _
            refine XS.iconst X36.here hx rfl (hb hby at_170) ?_
            show Steps p.tables e below (T36.setTop (mkF m 171 #[.val (.long p1), .second, .val (.int p2), .val (.int p3), .val (.int p4), .val (.ref a1), .val (.int nt), .val (.int nf), .val (.int (-1 : Int32)), .unset] [(.int (4 : Int32)), (.ref a1)])) _
            refine XS.iload X36.here hx rfl (hb hby at_171) rfl ?_
            show Steps p.tables e below (T36.setTop (mkF m 173 #[.val (.long p1), .second, .val (.int p2), .val (.int p3), .val (.int p4), .val (.ref a1), .val (.int nt), .val (.int nf), .val (.int (-1 : Int32)), .unset] [(.int nf), (.int (4 : Int32)), (.ref a1)])) _
            refine XS.iload X36.here hx rfl (hb hby at_173) rfl ?_
            show Steps p.tables e below (T36.setTop (mkF m 175 #[.val (.long p1), .second, .val (.int p2), .val (.int p3), .val (.int p4), .val (.ref a1), .val (.int nt), .val (.int nf), .val (.int (-1 : Int32)), .unset] [(.int nt), (.int nf), (.int (4 : Int32)), (.ref a1)])) _
            refine st38 _ ?_
            show Steps p.tables e below (T38.setTop (mkF m 178 #[.val (.long p1), .second, .val (.int p2), .val (.int p3), .val (.int p4), .val (.ref a1), .val (.int nt), .val (.int nf), .val (.int (-1 : Int32)), .unset] [(.int (own_mark_0 (fun i => ([v0, v1, v2, v3, v4] : List Int32).getD i 0) (4 : Int32) nf nt))])) _
            exact k
          by_cases hc178 : (own_mark_0 (fun i => ([v0, v1, v2, v3, v4] : List Int32).getD i 0) (4 : Int32) nf nt) = (0 : Int32)
          · have hc186_39 : (-1 : Int32) < (0 : Int32) := (by decide)
            obtain ⟨_, _, ⟨T40, uL40, uk40, un40⟩, -, X40, ⟨Lc40, hQ40, ul40, uy40, uz40⟩, st40⟩ := Jvm.LawKit.callS X38 hx (y := (⟨"com/example/fieldbook/fieldbook/Field", "plainDataEnd", "([BII)I"⟩ : MethodName)) hown (mvT hZ (hw _ (List.mem_of_getElem? (i := 9) rfl))) (mvT hZ (hw _ (List.mem_of_getElem? (i := 10) rfl))) (mvT hZ (hw _ (List.mem_of_getElem? (i := 11) rfl))) (mvT hZ (hw _ (List.mem_of_getElem? (i := 12) rfl))) (by decide) (backOf (W := 0) (rm3 l Z a0 hw [] a1 cl29 (fun i => ([v0, v1, v2, v3, v4] : List Int32).getD i 0) (5 : Int32) nf nt h25 n0 Z25 Ar29 S29 M29 (own_has (xs := ([v0, v1, v2, v3, v4] : List Int32)) H29 S29) q2.1 q2.2 q3) hZ (hw _ (List.mem_of_getElem? (i := 12) rfl)) (hw _ (List.mem_of_getElem? (i := 11) rfl)) (by decide) (by decide)) (g := (mkF m 240 #[.val (.long p1), .second, .val (.int p2), .val (.int p3), .val (.int p4), .val (.ref a1), .val (.int nt), .val (.int nf), .val (.int (-1 : Int32)), .val (.int nt)] [(.int nt), (.int nf), (.ref a1)])) rfl (by rw [hml]; rfl) (argsL := [(.ref a1), (.int nf), (.int nt)]) (rest := []) (lenOf pd__28_5bBII_29I rfl) rfl (by show 2 * 0 + _ ≤ _; exact Nat.le_of_eq rfl) (hb hby at_240) (fun _ _ => ⟨rfl, e38, (by decide : 1 + 0 ≤ _), (by decide : 5 + 0 ≤ _)⟩)
            dsimp only [Pt.U, Pt.locs, Pt.cells, Pt.slots] at X40 ul40 uy40 uz40 st40 hQ40
            subst ul40 uy40 uz40
            obtain ⟨rfl, Nq40, e40⟩ := hQ40
            have N40 := Fr.app N38 Nq40
            have hc245_41 : (own_pde_0 (fun i => ([v0, v1, v2, v3, v4] : List Int32).getD i 0) nf nt) = nt := by rw [own_fin _ _ _ q2.1 q2.2 q1.2, own_exp, if_pos hc94, if_pos hc115, if_pos hc136, if_pos hc157, if_pos hc178]
            refine own_end X40 Bd.notSynchronized (v := some (.int (1 : Int32))) (fun h => by rw [Bd.returns] at h; cases h) (fun fs hr => ?_) e40 ?_ (by decide) (by decide)
            · show Steps p.tables e below (T38.setTop (mkF m 178 #[.val (.long p1), .second, .val (.int p2), .val (.int p3), .val (.int p4), .val (.ref a1), .val (.int nt), .val (.int nf), .val (.int (-1 : Int32)), .unset] [(.int (own_mark_0 (fun i => ([v0, v1, v2, v3, v4] : List Int32).getD i 0) (4 : Int32) nf nt))])) _
              refine XS.ifYes X38.here hx rfl (pc0 := 178) (pc' := 184) rfl (hb hby at_178) rfl ((if0 _ _).trans (teq hc178).1) (by decide) (by decide) ?_
              show Steps p.tables e below (T38.setTop (mkF m 184 #[.val (.long p1), .second, .val (.int p2), .val (.int p3), .val (.int p4), .val (.ref a1), .val (.int nt), .val (.int nf), .val (.int (-1 : Int32)), .unset] [])) _
              refine XS.iload X38.here hx rfl (hb hby at_184) rfl ?_
              show Steps p.tables e below (T38.setTop (mkF m 186 #[.val (.long p1), .second, .val (.int p2), .val (.int p3), .val (.int p4), .val (.ref a1), .val (.int nt), .val (.int nf), .val (.int (-1 : Int32)), .unset] [(.int (-1 : Int32))])) _
              refine XS.ifNo X38.here hx rfl (hb hby at_186) rfl ((if0 _ _).trans (tlt hc186_39).2.1) ?_
              show Steps p.tables e below (T38.setTop (mkF m 189 #[.val (.long p1), .second, .val (.int p2), .val (.int p3), .val (.int p4), .val (.ref a1), .val (.int nt), .val (.int nf), .val (.int (-1 : Int32)), .unset] [])) _
              refine XS.iload X38.here hx rfl (hb hby at_189) rfl ?_
              show Steps p.tables e below (T38.setTop (mkF m 191 #[.val (.long p1), .second, .val (.int p2), .val (.int p3), .val (.int p4), .val (.ref a1), .val (.int nt), .val (.int nf), .val (.int (-1 : Int32)), .unset] [(.int nt)])) _
              refine XS.istore X38.here hx rfl (hb hby at_191) rfl (l' := #[.val (.long p1), .second, .val (.int p2), .val (.int p3), .val (.int p4), .val (.ref a1), .val (.int nt), .val (.int nf), .val (.int (-1 : Int32)), .val (.int nt)]) rfl ?_
              show Steps p.tables e below (T38.setTop (mkF m 193 #[.val (.long p1), .second, .val (.int p2), .val (.int p3), .val (.int p4), .val (.ref a1), .val (.int nt), .val (.int nf), .val (.int (-1 : Int32)), .val (.int nt)] [])) _
              refine XS.goto X38.here hx rfl (pc0 := 193) (pc' := 234) rfl (hb hby at_193) (by decide) (by decide) ?_
              show Steps p.tables e below (T38.setTop (mkF m 234 #[.val (.long p1), .second, .val (.int p2), .val (.int p3), .val (.int p4), .val (.ref a1), .val (.int nt), .val (.int nf), .val (.int (-1 : Int32)), .val (.int nt)] [])) _
              refine XS.aload X38.here hx rfl (hb hby at_234) rfl rfl ?_
              show Steps p.tables e below (T38.setTop (mkF m 236 #[.val (.long p1), .second, .val (.int p2), .val (.int p3), .val (.int p4), .val (.ref a1), .val (.int nt), .val (.int nf), .val (.int (-1 : Int32)), .val (.int nt)] [(.ref a1)])) _
              refine XS.iload X38.here hx rfl (hb hby at_236) rfl ?_
              show Steps p.tables e below (T38.setTop (mkF m 238 #[.val (.long p1), .second, .val (.int p2), .val (.int p3), .val (.int p4), .val (.ref a1), .val (.int nt), .val (.int nf), .val (.int (-1 : Int32)), .val (.int nt)] [(.int nf), (.ref a1)])) _
              refine XS.iload X38.here hx rfl (hb hby at_238) rfl ?_
              show Steps p.tables e below (T38.setTop (mkF m 240 #[.val (.long p1), .second, .val (.int p2), .val (.int p3), .val (.int p4), .val (.ref a1), .val (.int nt), .val (.int nf), .val (.int (-1 : Int32)), .val (.int nt)] [(.int nt), (.int nf), (.ref a1)])) _
              refine st40 _ ?_
              show Steps p.tables e below (T40.setTop (mkF m 243 #[.val (.long p1), .second, .val (.int p2), .val (.int p3), .val (.int p4), .val (.ref a1), .val (.int nt), .val (.int nf), .val (.int (-1 : Int32)), .val (.int nt)] [(.int (own_pde_0 (fun i => ([v0, v1, v2, v3, v4] : List Int32).getD i 0) nf nt))])) _
              refine XS.iload X40.here hx rfl (hb hby at_243) rfl ?_
              show Steps p.tables e below (T40.setTop (mkF m 245 #[.val (.long p1), .second, .val (.int p2), .val (.int p3), .val (.int p4), .val (.ref a1), .val (.int nt), .val (.int nf), .val (.int (-1 : Int32)), .val (.int nt)] [(.int nt), (.int (own_pde_0 (fun i => ([v0, v1, v2, v3, v4] : List Int32).getD i 0) nf nt))])) _
              refine XS.icmpNo X40.here hx rfl (hb hby at_245) rfl (teq hc245_41).2 ?_
              show Steps p.tables e below (T40.setTop (mkF m 248 #[.val (.long p1), .second, .val (.int p2), .val (.int p3), .val (.int p4), .val (.ref a1), .val (.int nt), .val (.int nf), .val (.int (-1 : Int32)), .val (.int nt)] [])) _
              refine XS.iconst X40.here hx rfl (hb hby at_248) ?_
              show Steps p.tables e below (T40.setTop (mkF m 249 #[.val (.long p1), .second, .val (.int p2), .val (.int p3), .val (.int p4), .val (.ref a1), .val (.int nt), .val (.int nf), .val (.int (-1 : Int32)), .val (.int nt)] [(.int (1 : Int32))])) _
              refine XS.goto X40.here hx rfl (pc0 := 249) (pc' := 253) rfl (hb hby at_249) (by decide) (by decide) ?_
              show Steps p.tables e below (T40.setTop (mkF m 253 #[.val (.long p1), .second, .val (.int p2), .val (.int p3), .val (.int p4), .val (.ref a1), .val (.int nt), .val (.int nf), .val (.int (-1 : Int32)), .val (.int nt)] [(.int (1 : Int32))])) _
              exact retN X40 hx (t := .boolean) Bd.returns (by simp) (hb hby at_253) hr
            · exact ⟨rfl, N40⟩
          · have hc186_42 : ¬ ((4 : Int32) < (0 : Int32)) := (by decide)
            have hc202_43 : (5 : Int32) = nt := own_four q1 hc178
            obtain ⟨_, _, ⟨T44, uL44, uk44, un44⟩, -, X44, ⟨Lc44, hQ44, ul44, uy44, uz44⟩, st44⟩ := Jvm.LawKit.callS X38 hx (y := (⟨"com/example/fieldbook/fieldbook/Field", "plainDataEnd", "([BII)I"⟩ : MethodName)) hown (mvT hZ (hw _ (List.mem_of_getElem? (i := 9) rfl))) (mvT hZ (hw _ (List.mem_of_getElem? (i := 10) rfl))) (mvT hZ (hw _ (List.mem_of_getElem? (i := 11) rfl))) (mvT hZ (hw _ (List.mem_of_getElem? (i := 12) rfl))) (by decide) (backOf (W := 0) (rm3 l Z a0 hw [] a1 cl29 (fun i => ([v0, v1, v2, v3, v4] : List Int32).getD i 0) (5 : Int32) nf nt h25 n0 Z25 Ar29 S29 M29 (own_has (xs := ([v0, v1, v2, v3, v4] : List Int32)) H29 S29) q2.1 q2.2 q3) hZ (hw _ (List.mem_of_getElem? (i := 12) rfl)) (hw _ (List.mem_of_getElem? (i := 11) rfl)) (by decide) (by decide)) (g := (mkF m 240 #[.val (.long p1), .second, .val (.int p2), .val (.int p3), .val (.int p4), .val (.ref a1), .val (.int nt), .val (.int nf), .val (.int (4 : Int32)), .val (.int (4 : Int32))] [(.int nt), (.int nf), (.ref a1)])) rfl (by rw [hml]; rfl) (argsL := [(.ref a1), (.int nf), (.int nt)]) (rest := []) (lenOf pd__28_5bBII_29I rfl) rfl (by show 2 * 0 + _ ≤ _; exact Nat.le_of_eq rfl) (hb hby at_240) (fun _ _ => ⟨rfl, e38, (by decide : 1 + 0 ≤ _), (by decide : 5 + 0 ≤ _)⟩)
            dsimp only [Pt.U, Pt.locs, Pt.cells, Pt.slots] at X44 ul44 uy44 uz44 st44 hQ44
            subst ul44 uy44 uz44
            obtain ⟨rfl, Nq44, e44⟩ := hQ44
            have N44 := Fr.app N38 Nq44
            have hc245_45 : (own_pde_0 (fun i => ([v0, v1, v2, v3, v4] : List Int32).getD i 0) nf nt) = (4 : Int32) := by rw [own_fin _ _ _ q2.1 q2.2 q1.2, own_exp, if_pos hc94, if_pos hc115, if_pos hc136, if_pos hc157, if_neg hc178, own_e, if_pos hc202_43]
            refine own_end X44 Bd.notSynchronized (v := some (.int (1 : Int32))) (fun h => by rw [Bd.returns] at h; cases h) (fun fs hr => ?_) e44 ?_ (by decide) (by decide)
            · show Steps p.tables e below (T38.setTop (mkF m 178 #[.val (.long p1), .second, .val (.int p2), .val (.int p3), .val (.int p4), .val (.ref a1), .val (.int nt), .val (.int nf), .val (.int (-1 : Int32)), .unset] [(.int (own_mark_0 (fun i => ([v0, v1, v2, v3, v4] : List Int32).getD i 0) (4 : Int32) nf nt))])) _
              refine XS.ifNo X38.here hx rfl (hb hby at_178) rfl ((if0 _ _).trans (feq hc178).1) ?_
              show Steps p.tables e below (T38.setTop (mkF m 181 #[.val (.long p1), .second, .val (.int p2), .val (.int p3), .val (.int p4), .val (.ref a1), .val (.int nt), .val (.int nf), .val (.int (-1 : Int32)), .unset] [])) _
              refine XS.iconst X38.here hx rfl (hb hby at_181) ?_
              show Steps p.tables e below (T38.setTop (mkF m 182 #[.val (.long p1), .second, .val (.int p2), .val (.int p3), .val (.int p4), .val (.ref a1), .val (.int nt), .val (.int nf), .val (.int (-1 : Int32)), .unset] [(.int (4 : Int32))])) _
              refine XS.istore X38.here hx rfl (hb hby at_182) rfl (l' := #[.val (.long p1), .second, .val (.int p2), .val (.int p3), .val (.int p4), .val (.ref a1), .val (.int nt), .val (.int nf), .val (.int (4 : Int32)), .unset]) rfl ?_
              show Steps p.tables e below (T38.setTop (mkF m 184 #[.val (.long p1), .second, .val (.int p2), .val (.int p3), .val (.int p4), .val (.ref a1), .val (.int nt), .val (.int nf), .val (.int (4 : Int32)), .unset] [])) _
              refine XS.iload X38.here hx rfl (hb hby at_184) rfl ?_
              show Steps p.tables e below (T38.setTop (mkF m 186 #[.val (.long p1), .second, .val (.int p2), .val (.int p3), .val (.int p4), .val (.ref a1), .val (.int nt), .val (.int nf), .val (.int (4 : Int32)), .unset] [(.int (4 : Int32))])) _
              refine XS.ifYes X38.here hx rfl (pc0 := 186) (pc' := 196) rfl (hb hby at_186) rfl ((if0 _ _).trans (flt hc186_42).2.1) (by decide) (by decide) ?_
              show Steps p.tables e below (T38.setTop (mkF m 196 #[.val (.long p1), .second, .val (.int p2), .val (.int p3), .val (.int p4), .val (.ref a1), .val (.int nt), .val (.int nf), .val (.int (4 : Int32)), .unset] [])) _
              refine XS.iload X38.here hx rfl (hb hby at_196) rfl ?_
              show Steps p.tables e below (T38.setTop (mkF m 198 #[.val (.long p1), .second, .val (.int p2), .val (.int p3), .val (.int p4), .val (.ref a1), .val (.int nt), .val (.int nf), .val (.int (4 : Int32)), .unset] [(.int (4 : Int32))])) _
              refine XS.iconst X38.here hx rfl (hb hby at_198) ?_
              show Steps p.tables e below (T38.setTop (mkF m 199 #[.val (.long p1), .second, .val (.int p2), .val (.int p3), .val (.int p4), .val (.ref a1), .val (.int nt), .val (.int nf), .val (.int (4 : Int32)), .unset] [(.int (1 : Int32)), (.int (4 : Int32))])) _
              refine XS.iadd X38.here hx rfl (hb hby at_199) rfl ?_
              show Steps p.tables e below (T38.setTop (mkF m 200 #[.val (.long p1), .second, .val (.int p2), .val (.int p3), .val (.int p4), .val (.ref a1), .val (.int nt), .val (.int nf), .val (.int (4 : Int32)), .unset] [(.int (5 : Int32))])) _
              refine XS.iload X38.here hx rfl (hb hby at_200) rfl ?_
              show Steps p.tables e below (T38.setTop (mkF m 202 #[.val (.long p1), .second, .val (.int p2), .val (.int p3), .val (.int p4), .val (.ref a1), .val (.int nt), .val (.int nf), .val (.int (4 : Int32)), .unset] [(.int nt), (.int (5 : Int32))])) _
              refine XS.icmpNo X38.here hx rfl (hb hby at_202) rfl (teq hc202_43).2 ?_
              show Steps p.tables e below (T38.setTop (mkF m 205 #[.val (.long p1), .second, .val (.int p2), .val (.int p3), .val (.int p4), .val (.ref a1), .val (.int nt), .val (.int nf), .val (.int (4 : Int32)), .unset] [])) _
              refine XS.iload X38.here hx rfl (hb hby at_205) rfl ?_
              show Steps p.tables e below (T38.setTop (mkF m 207 #[.val (.long p1), .second, .val (.int p2), .val (.int p3), .val (.int p4), .val (.ref a1), .val (.int nt), .val (.int nf), .val (.int (4 : Int32)), .unset] [(.int (4 : Int32))])) _
              refine XS.istore X38.here hx rfl (hb hby at_207) rfl (l' := #[.val (.long p1), .second, .val (.int p2), .val (.int p3), .val (.int p4), .val (.ref a1), .val (.int nt), .val (.int nf), .val (.int (4 : Int32)), .val (.int (4 : Int32))]) rfl ?_
              show Steps p.tables e below (T38.setTop (mkF m 209 #[.val (.long p1), .second, .val (.int p2), .val (.int p3), .val (.int p4), .val (.ref a1), .val (.int nt), .val (.int nf), .val (.int (4 : Int32)), .val (.int (4 : Int32))] [])) _
              refine XS.goto X38.here hx rfl (pc0 := 209) (pc' := 234) rfl (hb hby at_209) (by decide) (by decide) ?_
              show Steps p.tables e below (T38.setTop (mkF m 234 #[.val (.long p1), .second, .val (.int p2), .val (.int p3), .val (.int p4), .val (.ref a1), .val (.int nt), .val (.int nf), .val (.int (4 : Int32)), .val (.int (4 : Int32))] [])) _
              refine XS.aload X38.here hx rfl (hb hby at_234) rfl rfl ?_
              show Steps p.tables e below (T38.setTop (mkF m 236 #[.val (.long p1), .second, .val (.int p2), .val (.int p3), .val (.int p4), .val (.ref a1), .val (.int nt), .val (.int nf), .val (.int (4 : Int32)), .val (.int (4 : Int32))] [(.ref a1)])) _
              refine XS.iload X38.here hx rfl (hb hby at_236) rfl ?_
              show Steps p.tables e below (T38.setTop (mkF m 238 #[.val (.long p1), .second, .val (.int p2), .val (.int p3), .val (.int p4), .val (.ref a1), .val (.int nt), .val (.int nf), .val (.int (4 : Int32)), .val (.int (4 : Int32))] [(.int nf), (.ref a1)])) _
              refine XS.iload X38.here hx rfl (hb hby at_238) rfl ?_
              show Steps p.tables e below (T38.setTop (mkF m 240 #[.val (.long p1), .second, .val (.int p2), .val (.int p3), .val (.int p4), .val (.ref a1), .val (.int nt), .val (.int nf), .val (.int (4 : Int32)), .val (.int (4 : Int32))] [(.int nt), (.int nf), (.ref a1)])) _
              refine st44 _ ?_
              show Steps p.tables e below (T44.setTop (mkF m 243 #[.val (.long p1), .second, .val (.int p2), .val (.int p3), .val (.int p4), .val (.ref a1), .val (.int nt), .val (.int nf), .val (.int (4 : Int32)), .val (.int (4 : Int32))] [(.int (own_pde_0 (fun i => ([v0, v1, v2, v3, v4] : List Int32).getD i 0) nf nt))])) _
              refine XS.iload X44.here hx rfl (hb hby at_243) rfl ?_
              show Steps p.tables e below (T44.setTop (mkF m 245 #[.val (.long p1), .second, .val (.int p2), .val (.int p3), .val (.int p4), .val (.ref a1), .val (.int nt), .val (.int nf), .val (.int (4 : Int32)), .val (.int (4 : Int32))] [(.int (4 : Int32)), (.int (own_pde_0 (fun i => ([v0, v1, v2, v3, v4] : List Int32).getD i 0) nf nt))])) _
              refine XS.icmpNo X44.here hx rfl (hb hby at_245) rfl (teq hc245_45).2 ?_
              show Steps p.tables e below (T44.setTop (mkF m 248 #[.val (.long p1), .second, .val (.int p2), .val (.int p3), .val (.int p4), .val (.ref a1), .val (.int nt), .val (.int nf), .val (.int (4 : Int32)), .val (.int (4 : Int32))] [])) _
              refine XS.iconst X44.here hx rfl (hb hby at_248) ?_
              show Steps p.tables e below (T44.setTop (mkF m 249 #[.val (.long p1), .second, .val (.int p2), .val (.int p3), .val (.int p4), .val (.ref a1), .val (.int nt), .val (.int nf), .val (.int (4 : Int32)), .val (.int (4 : Int32))] [(.int (1 : Int32))])) _
              refine XS.goto X44.here hx rfl (pc0 := 249) (pc' := 253) rfl (hb hby at_249) (by decide) (by decide) ?_
              show Steps p.tables e below (T44.setTop (mkF m 253 #[.val (.long p1), .second, .val (.int p2), .val (.int p3), .val (.int p4), .val (.ref a1), .val (.int nt), .val (.int nf), .val (.int (4 : Int32)), .val (.int (4 : Int32))] [(.int (1 : Int32))])) _
              exact retN X44 hx (t := .boolean) Bd.returns (by simp) (hb hby at_253) hr
            · exact ⟨rfl, N44⟩
        · have hc165_46 : ¬ ((3 : Int32) < (0 : Int32)) := (by decide)
          have hc186_47 : ¬ ((3 : Int32) < (0 : Int32)) := (by decide)
          refine own_go (b := T36.setTop (mkF m 202 #[.val (.long p1), .second, .val (.int p2), .val (.int p3), .val (.int p4), .val (.ref a1), .val (.int nt), .val (.int nf), .val (.int (3 : Int32)), .unset] [(.int nt), (.int (4 : Int32))])) (fun t k => ?_) ?_
          · show Steps p.tables e below (T36.setTop (mkF m 157 #[.val (.long p1), .second, .val (.int p2), .val (.int p3), .val (.int p4), .val (.ref a1), .val (.int nt), .val (.int nf), .val (.int (-1 : Int32)), .unset] [(.int (own_mark_0 (fun i => ([v0, v1, v2, v3, v4] : List Int32).getD i 0) (3 : Int32) nf nt))])) _
            refine XS.ifNo X36.here hx rfl (hb hby at_157) rfl ((if0 _ _).trans (feq hc157).1) ?_
            show Steps p.tables e below (T36.setTop (mkF m 160 #[.val (.long p1), .second, .val (.int p2), .val (.int p3), .val (.int p4), .val (.ref a1), .val (.int nt), .val (.int nf), .val (.int (-1 : Int32)), .unset] [])) _
            refine XS.iconst X36.here hx rfl (hb hby at_160) ?_
            show Steps p.tables e below (T36.setTop (mkF m 161 #[.val (.long p1), .second, .val (.int p2), .val (.int p3), .val (.int p4), .val (.ref a1), .val (.int nt), .val (.int nf), .val (.int (-1 : Int32)), .unset] [(.int (3 : Int32))])) _
            refine XS.istore X36.here hx rfl (hb hby at_161) rfl (l' := #[.val (.long p1), .second, .val (.int p2), .val (.int p3), .val (.int p4), .val (.ref a1), .val (.int nt), .val (.int nf), .val (.int (3 : Int32)), .unset]) rfl ?_
            show Steps p.tables e below (T36.setTop (mkF m 163 #[.val (.long p1), .second, .val (.int p2), .val (.int p3), .val (.int p4), .val (.ref a1), .val (.int nt), .val (.int nf), .val (.int (3 : Int32)), .unset] [])) _
            refine XS.iload X36.here hx rfl (hb hby at_163) rfl ?_
            show Steps p.tables e below (T36.setTop (mkF m 165 #[.val (.long p1), .second, .val (.int p2), .val (.int p3), .val (.int p4), .val (.ref a1), .val (.int nt), .val (.int nf), .val (.int (3 : Int32)), .unset] [(.int (3 : Int32))])) _
            refine XS.ifYes X36.here hx rfl (pc0 := 165) (pc' := 184) rfl (hb hby at_165) rfl ((if0 _ _).trans (flt hc165_46).2.1) (by decide) (by decide) ?_
            show Steps p.tables e below (T36.setTop (mkF m 184 #[.val (.long p1), .second, .val (.int p2), .val (.int p3), .val (.int p4), .val (.ref a1), .val (.int nt), .val (.int nf), .val (.int (3 : Int32)), .unset] [])) _
            refine XS.iload X36.here hx rfl (hb hby at_184) rfl ?_
            show Steps p.tables e below (T36.setTop (mkF m 186 #[.val (.long p1), .second, .val (.int p2), .val (.int p3), .val (.int p4), .val (.ref a1), .val (.int nt), .val (.int nf), .val (.int (3 : Int32)), .unset] [(.int (3 : Int32))])) _
            refine XS.ifYes X36.here hx rfl (pc0 := 186) (pc' := 196) rfl (hb hby at_186) rfl ((if0 _ _).trans (flt hc186_47).2.1) (by decide) (by decide) ?_
            show Steps p.tables e below (T36.setTop (mkF m 196 #[.val (.long p1), .second, .val (.int p2), .val (.int p3), .val (.int p4), .val (.ref a1), .val (.int nt), .val (.int nf), .val (.int (3 : Int32)), .unset] [])) _
            refine XS.iload X36.here hx rfl (hb hby at_196) rfl ?_
            show Steps p.tables e below (T36.setTop (mkF m 198 #[.val (.long p1), .second, .val (.int p2), .val (.int p3), .val (.int p4), .val (.ref a1), .val (.int nt), .val (.int nf), .val (.int (3 : Int32)), .unset] [(.int (3 : Int32))])) _
            refine XS.iconst X36.here hx rfl (hb hby at_198) ?_
            show Steps p.tables e below (T36.setTop (mkF m 199 #[.val (.long p1), .second, .val (.int p2), .val (.int p3), .val (.int p4), .val (.ref a1), .val (.int nt), .val (.int nf), .val (.int (3 : Int32)), .unset] [(.int (1 : Int32)), (.int (3 : Int32))])) _
            refine XS.iadd X36.here hx rfl (hb hby at_199) rfl ?_
            show Steps p.tables e below (T36.setTop (mkF m 200 #[.val (.long p1), .second, .val (.int p2), .val (.int p3), .val (.int p4), .val (.ref a1), .val (.int nt), .val (.int nf), .val (.int (3 : Int32)), .unset] [(.int (4 : Int32))])) _
            refine XS.iload X36.here hx rfl (hb hby at_200) rfl ?_
            show Steps p.tables e below (T36.setTop (mkF m 202 #[.val (.long p1), .second, .val (.int p2), .val (.int p3), .val (.int p4), .val (.ref a1), .val (.int nt), .val (.int nf), .val (.int (3 : Int32)), .unset] [(.int nt), (.int (4 : Int32))])) _
            exact k
          by_cases hc202 : (4 : Int32) = nt
          · obtain ⟨_, _, ⟨T48, uL48, uk48, un48⟩, -, X48, ⟨Lc48, hQ48, ul48, uy48, uz48⟩, st48⟩ := Jvm.LawKit.callS X36 hx (y := (⟨"com/example/fieldbook/fieldbook/Field", "plainDataEnd", "([BII)I"⟩ : MethodName)) hown (mvT hZ (hw _ (List.mem_of_getElem? (i := 9) rfl))) (mvT hZ (hw _ (List.mem_of_getElem? (i := 10) rfl))) (mvT hZ (hw _ (List.mem_of_getElem? (i := 11) rfl))) (mvT hZ (hw _ (List.mem_of_getElem? (i := 12) rfl))) (by decide) (backOf (W := 0) (rm3 l Z a0 hw [] a1 cl29 (fun i => ([v0, v1, v2, v3, v4] : List Int32).getD i 0) (5 : Int32) nf nt h25 n0 Z25 Ar29 S29 M29 (own_has (xs := ([v0, v1, v2, v3, v4] : List Int32)) H29 S29) q2.1 q2.2 q3) hZ (hw _ (List.mem_of_getElem? (i := 12) rfl)) (hw _ (List.mem_of_getElem? (i := 11) rfl)) (by decide) (by decide)) (g := (mkF m 240 #[.val (.long p1), .second, .val (.int p2), .val (.int p3), .val (.int p4), .val (.ref a1), .val (.int nt), .val (.int nf), .val (.int (3 : Int32)), .val (.int (3 : Int32))] [(.int nt), (.int nf), (.ref a1)])) rfl (by rw [hml]; rfl) (argsL := [(.ref a1), (.int nf), (.int nt)]) (rest := []) (lenOf pd__28_5bBII_29I rfl) rfl (by show 2 * 0 + _ ≤ _; exact Nat.le_of_eq rfl) (hb hby at_240) (fun _ _ => ⟨rfl, e36, (by decide : 1 + 0 ≤ _), (by decide : 5 + 0 ≤ _)⟩)
            dsimp only [Pt.U, Pt.locs, Pt.cells, Pt.slots] at X48 ul48 uy48 uz48 st48 hQ48
            subst ul48 uy48 uz48
            obtain ⟨rfl, Nq48, e48⟩ := hQ48
            have N48 := Fr.app N36 Nq48
            have hc245_49 : (own_pde_0 (fun i => ([v0, v1, v2, v3, v4] : List Int32).getD i 0) nf nt) = (3 : Int32) := by rw [own_fin _ _ _ q2.1 q2.2 q1.2, own_exp, if_pos hc94, if_pos hc115, if_pos hc136, if_neg hc157, own_e, if_pos hc202]
            refine own_end X48 Bd.notSynchronized (v := some (.int (1 : Int32))) (fun h => by rw [Bd.returns] at h; cases h) (fun fs hr => ?_) e48 ?_ (by decide) (by decide)
            · show Steps p.tables e below (T36.setTop (mkF m 202 #[.val (.long p1), .second, .val (.int p2), .val (.int p3), .val (.int p4), .val (.ref a1), .val (.int nt), .val (.int nf), .val (.int (3 : Int32)), .unset] [(.int nt), (.int (4 : Int32))])) _
              refine XS.icmpNo X36.here hx rfl (hb hby at_202) rfl (teq hc202).2 ?_
              show Steps p.tables e below (T36.setTop (mkF m 205 #[.val (.long p1), .second, .val (.int p2), .val (.int p3), .val (.int p4), .val (.ref a1), .val (.int nt), .val (.int nf), .val (.int (3 : Int32)), .unset] [])) _
              refine XS.iload X36.here hx rfl (hb hby at_205) rfl ?_
              show Steps p.tables e below (T36.setTop (mkF m 207 #[.val (.long p1), .second, .val (.int p2), .val (.int p3), .val (.int p4), .val (.ref a1), .val (.int nt), .val (.int nf), .val (.int (3 : Int32)), .unset] [(.int (3 : Int32))])) _
              refine XS.istore X36.here hx rfl (hb hby at_207) rfl (l' := #[.val (.long p1), .second, .val (.int p2), .val (.int p3), .val (.int p4), .val (.ref a1), .val (.int nt), .val (.int nf), .val (.int (3 : Int32)), .val (.int (3 : Int32))]) rfl ?_
              show Steps p.tables e below (T36.setTop (mkF m 209 #[.val (.long p1), .second, .val (.int p2), .val (.int p3), .val (.int p4), .val (.ref a1), .val (.int nt), .val (.int nf), .val (.int (3 : Int32)), .val (.int (3 : Int32))] [])) _
              refine XS.goto X36.here hx rfl (pc0 := 209) (pc' := 234) rfl (hb hby at_209) (by decide) (by decide) ?_
              show Steps p.tables e below (T36.setTop (mkF m 234 #[.val (.long p1), .second, .val (.int p2), .val (.int p3), .val (.int p4), .val (.ref a1), .val (.int nt), .val (.int nf), .val (.int (3 : Int32)), .val (.int (3 : Int32))] [])) _
              refine XS.aload X36.here hx rfl (hb hby at_234) rfl rfl ?_
              show Steps p.tables e below (T36.setTop (mkF m 236 #[.val (.long p1), .second, .val (.int p2), .val (.int p3), .val (.int p4), .val (.ref a1), .val (.int nt), .val (.int nf), .val (.int (3 : Int32)), .val (.int (3 : Int32))] [(.ref a1)])) _
              refine XS.iload X36.here hx rfl (hb hby at_236) rfl ?_
              show Steps p.tables e below (T36.setTop (mkF m 238 #[.val (.long p1), .second, .val (.int p2), .val (.int p3), .val (.int p4), .val (.ref a1), .val (.int nt), .val (.int nf), .val (.int (3 : Int32)), .val (.int (3 : Int32))] [(.int nf), (.ref a1)])) _
              refine XS.iload X36.here hx rfl (hb hby at_238) rfl ?_
              show Steps p.tables e below (T36.setTop (mkF m 240 #[.val (.long p1), .second, .val (.int p2), .val (.int p3), .val (.int p4), .val (.ref a1), .val (.int nt), .val (.int nf), .val (.int (3 : Int32)), .val (.int (3 : Int32))] [(.int nt), (.int nf), (.ref a1)])) _
              refine st48 _ ?_
              show Steps p.tables e below (T48.setTop (mkF m 243 #[.val (.long p1), .second, .val (.int p2), .val (.int p3), .val (.int p4), .val (.ref a1), .val (.int nt), .val (.int nf), .val (.int (3 : Int32)), .val (.int (3 : Int32))] [(.int (own_pde_0 (fun i => ([v0, v1, v2, v3, v4] : List Int32).getD i 0) nf nt))])) _
              refine XS.iload X48.here hx rfl (hb hby at_243) rfl ?_
              show Steps p.tables e below (T48.setTop (mkF m 245 #[.val (.long p1), .second, .val (.int p2), .val (.int p3), .val (.int p4), .val (.ref a1), .val (.int nt), .val (.int nf), .val (.int (3 : Int32)), .val (.int (3 : Int32))] [(.int (3 : Int32)), (.int (own_pde_0 (fun i => ([v0, v1, v2, v3, v4] : List Int32).getD i 0) nf nt))])) _
              refine XS.icmpNo X48.here hx rfl (hb hby at_245) rfl (teq hc245_49).2 ?_
              show Steps p.tables e below (T48.setTop (mkF m 248 #[.val (.long p1), .second, .val (.int p2), .val (.int p3), .val (.int p4), .val (.ref a1), .val (.int nt), .val (.int nf), .val (.int (3 : Int32)), .val (.int (3 : Int32))] [])) _
              refine XS.iconst X48.here hx rfl (hb hby at_248) ?_
              show Steps p.tables e below (T48.setTop (mkF m 249 #[.val (.long p1), .second, .val (.int p2), .val (.int p3), .val (.int p4), .val (.ref a1), .val (.int nt), .val (.int nf), .val (.int (3 : Int32)), .val (.int (3 : Int32))] [(.int (1 : Int32))])) _
              refine XS.goto X48.here hx rfl (pc0 := 249) (pc' := 253) rfl (hb hby at_249) (by decide) (by decide) ?_
              show Steps p.tables e below (T48.setTop (mkF m 253 #[.val (.long p1), .second, .val (.int p2), .val (.int p3), .val (.int p4), .val (.ref a1), .val (.int nt), .val (.int nf), .val (.int (3 : Int32)), .val (.int (3 : Int32))] [(.int (1 : Int32))])) _
              exact retN X48 hx (t := .boolean) Bd.returns (by simp) (hb hby at_253) hr
            · exact ⟨rfl, N48⟩
          · have hi50 : ¬ (4 : Int32) < 0 ∧ (4 : Int32).toNatClampNeg < (5 : Int32).toNatClampNeg := by decide
            have ha50 : cl29.slots[(4 : Int32).toNatClampNeg]? = some (.int v4) := H29 _ (by rw [S29]; exact hi50.2)
            refine own_go (b := T36.setTop (mkF m 221 #[.val (.long p1), .second, .val (.int p2), .val (.int p3), .val (.int p4), .val (.ref a1), .val (.int nt), .val (.int nf), .val (.int (3 : Int32)), .unset] [(.int (94 : Int32)), (.int v4)])) (fun t k => ?_) ?_
            · show Steps p.tables e below (T36.setTop (mkF m 202 #[.val (.long p1), .second, .val (.int p2), .val (.int p3), .val (.int p4), .val (.ref a1), .val (.int nt), .val (.int nf), .val (.int (3 : Int32)), .unset] [(.int nt), (.int (4 : Int32))])) _
              refine XS.icmpYes X36.here hx rfl (pc0 := 202) (pc' := 212) rfl (hb hby at_202) rfl (feq hc202).2 (by decide) (by decide) ?_
              show Steps p.tables e below (T36.setTop (mkF m 212 #[.val (.long p1), .second, .val (.int p2), .val (.int p3), .val (.int p4), .val (.ref a1), .val (.int nt), .val (.int nf), .val (.int (3 : Int32)), .unset] [])) _
              refine XS.aload X36.here hx rfl (hb hby at_212) rfl rfl ?_
              show Steps p.tables e below (T36.setTop (mkF m 214 #[.val (.long p1), .second, .val (.int p2), .val (.int p3), .val (.int p4), .val (.ref a1), .val (.int nt), .val (.int nf), .val (.int (3 : Int32)), .unset] [(.ref a1)])) _
              refine XS.iload X36.here hx rfl (hb hby at_214) rfl ?_
              show Steps p.tables e below (T36.setTop (mkF m 216 #[.val (.long p1), .second, .val (.int p2), .val (.int p3), .val (.int p4), .val (.ref a1), .val (.int nt), .val (.int nf), .val (.int (3 : Int32)), .unset] [(.int (3 : Int32)), (.ref a1)])) _
              refine XS.iconst X36.here hx rfl (hb hby at_216) ?_
              show Steps p.tables e below (T36.setTop (mkF m 217 #[.val (.long p1), .second, .val (.int p2), .val (.int p3), .val (.int p4), .val (.ref a1), .val (.int nt), .val (.int nf), .val (.int (3 : Int32)), .unset] [(.int (1 : Int32)), (.int (3 : Int32)), (.ref a1)])) _
              refine XS.iadd X36.here hx rfl (hb hby at_217) rfl ?_
              show Steps p.tables e below (T36.setTop (mkF m 218 #[.val (.long p1), .second, .val (.int p2), .val (.int p3), .val (.int p4), .val (.ref a1), .val (.int nt), .val (.int nf), .val (.int (3 : Int32)), .unset] [(.int (4 : Int32)), (.ref a1)])) _
              refine X36.baloadBytes hx (j := (4 : Int32)) (v := (.int v4)) (by rw [e36]; exact Ar29.1) (State.isArrayOf_alike hZ.alike Ar29.2.1) Ar29.2.2 (own_hin S29 hi50) ha50 (g := (mkF m 218 #[.val (.long p1), .second, .val (.int p2), .val (.int p3), .val (.int p4), .val (.ref a1), .val (.int nt), .val (.int nf), .val (.int (3 : Int32)), .unset] [(.int (4 : Int32)), (.ref a1)])) rfl rfl (hb hby at_218) _ ?_
              show Steps p.tables e below (T36.setTop (mkF m 219 #[.val (.long p1), .second, .val (.int p2), .val (.int p3), .val (.int p4), .val (.ref a1), .val (.int nt), .val (.int nf), .val (.int (3 : Int32)), .unset] [(.int v4)])) _
              refine XS.bipush X36.here hx rfl (hb hby at_219) ?_
              show Steps p.tables e below (T36.setTop (mkF m 221 #[.val (.long p1), .second, .val (.int p2), .val (.int p3), .val (.int p4), .val (.ref a1), .val (.int nt), .val (.int nf), .val (.int (3 : Int32)), .unset] [(.int (94 : Int32)), (.int v4)])) _
              exact k
            by_cases hc221 : v4 = (94 : Int32)
            · obtain ⟨_, _, ⟨T51, uL51, uk51, un51⟩, -, X51, ⟨Lc51, hQ51, ul51, uy51, uz51⟩, st51⟩ := Jvm.LawKit.callS X36 hx (y := (⟨"com/example/fieldbook/fieldbook/Field", "plainDataEnd", "([BII)I"⟩ : MethodName)) hown (mvT hZ (hw _ (List.mem_of_getElem? (i := 9) rfl))) (mvT hZ (hw _ (List.mem_of_getElem? (i := 10) rfl))) (mvT hZ (hw _ (List.mem_of_getElem? (i := 11) rfl))) (mvT hZ (hw _ (List.mem_of_getElem? (i := 12) rfl))) (by decide) (backOf (W := 0) (rm3 l Z a0 hw [] a1 cl29 (fun i => ([v0, v1, v2, v3, v4] : List Int32).getD i 0) (5 : Int32) nf nt h25 n0 Z25 Ar29 S29 M29 (own_has (xs := ([v0, v1, v2, v3, v4] : List Int32)) H29 S29) q2.1 q2.2 q3) hZ (hw _ (List.mem_of_getElem? (i := 12) rfl)) (hw _ (List.mem_of_getElem? (i := 11) rfl)) (by decide) (by decide)) (g := (mkF m 240 #[.val (.long p1), .second, .val (.int p2), .val (.int p3), .val (.int p4), .val (.ref a1), .val (.int nt), .val (.int nf), .val (.int (3 : Int32)), .val (.int (-1 : Int32))] [(.int nt), (.int nf), (.ref a1)])) rfl (by rw [hml]; rfl) (argsL := [(.ref a1), (.int nf), (.int nt)]) (rest := []) (lenOf pd__28_5bBII_29I rfl) rfl (by show 2 * 0 + _ ≤ _; exact Nat.le_of_eq rfl) (hb hby at_240) (fun _ _ => ⟨rfl, e36, (by decide : 1 + 0 ≤ _), (by decide : 5 + 0 ≤ _)⟩)
              dsimp only [Pt.U, Pt.locs, Pt.cells, Pt.slots] at X51 ul51 uy51 uz51 st51 hQ51
              subst ul51 uy51 uz51
              obtain ⟨rfl, Nq51, e51⟩ := hQ51
              have N51 := Fr.app N36 Nq51
              have hc245_52 : (own_pde_0 (fun i => ([v0, v1, v2, v3, v4] : List Int32).getD i 0) nf nt) = (-1 : Int32) := by rw [own_fin _ _ _ q2.1 q2.2 q1.2, own_exp, if_pos hc94, if_pos hc115, if_pos hc136, if_neg hc157, own_e, if_neg hc202]; exact if_pos hc221
              refine own_end X51 Bd.notSynchronized (v := some (.int (1 : Int32))) (fun h => by rw [Bd.returns] at h; cases h) (fun fs hr => ?_) e51 ?_ (by decide) (by decide)
              · show Steps p.tables e below (T36.setTop (mkF m 221 #[.val (.long p1), .second, .val (.int p2), .val (.int p3), .val (.int p4), .val (.ref a1), .val (.int nt), .val (.int nf), .val (.int (3 : Int32)), .unset] [(.int (94 : Int32)), (.int v4)])) _
                refine XS.icmpYes X36.here hx rfl (pc0 := 221) (pc' := 231) rfl (hb hby at_221) rfl (teq hc221).1 (by decide) (by decide) ?_
                show Steps p.tables e below (T36.setTop (mkF m 231 #[.val (.long p1), .second, .val (.int p2), .val (.int p3), .val (.int p4), .val (.ref a1), .val (.int nt), .val (.int nf), .val (.int (3 : Int32)), .unset] [])) _
                refine XS.iconst X36.here hx rfl (hb hby at_231) ?_
                show Steps p.tables e below (T36.setTop (mkF m 232 #[.val (.long p1), .second, .val (.int p2), .val (.int p3), .val (.int p4), .val (.ref a1), .val (.int nt), .val (.int nf), .val (.int (3 : Int32)), .unset] [(.int (-1 : Int32))])) _
                refine XS.istore X36.here hx rfl (hb hby at_232) rfl (l' := #[.val (.long p1), .second, .val (.int p2), .val (.int p3), .val (.int p4), .val (.ref a1), .val (.int nt), .val (.int nf), .val (.int (3 : Int32)), .val (.int (-1 : Int32))]) rfl ?_
                show Steps p.tables e below (T36.setTop (mkF m 234 #[.val (.long p1), .second, .val (.int p2), .val (.int p3), .val (.int p4), .val (.ref a1), .val (.int nt), .val (.int nf), .val (.int (3 : Int32)), .val (.int (-1 : Int32))] [])) _
                refine XS.aload X36.here hx rfl (hb hby at_234) rfl rfl ?_
                show Steps p.tables e below (T36.setTop (mkF m 236 #[.val (.long p1), .second, .val (.int p2), .val (.int p3), .val (.int p4), .val (.ref a1), .val (.int nt), .val (.int nf), .val (.int (3 : Int32)), .val (.int (-1 : Int32))] [(.ref a1)])) _
                refine XS.iload X36.here hx rfl (hb hby at_236) rfl ?_
                show Steps p.tables e below (T36.setTop (mkF m 238 #[.val (.long p1), .second, .val (.int p2), .val (.int p3), .val (.int p4), .val (.ref a1), .val (.int nt), .val (.int nf), .val (.int (3 : Int32)), .val (.int (-1 : Int32))] [(.int nf), (.ref a1)])) _
                refine XS.iload X36.here hx rfl (hb hby at_238) rfl ?_
                show Steps p.tables e below (T36.setTop (mkF m 240 #[.val (.long p1), .second, .val (.int p2), .val (.int p3), .val (.int p4), .val (.ref a1), .val (.int nt), .val (.int nf), .val (.int (3 : Int32)), .val (.int (-1 : Int32))] [(.int nt), (.int nf), (.ref a1)])) _
                refine st51 _ ?_
                show Steps p.tables e below (T51.setTop (mkF m 243 #[.val (.long p1), .second, .val (.int p2), .val (.int p3), .val (.int p4), .val (.ref a1), .val (.int nt), .val (.int nf), .val (.int (3 : Int32)), .val (.int (-1 : Int32))] [(.int (own_pde_0 (fun i => ([v0, v1, v2, v3, v4] : List Int32).getD i 0) nf nt))])) _
                refine XS.iload X51.here hx rfl (hb hby at_243) rfl ?_
                show Steps p.tables e below (T51.setTop (mkF m 245 #[.val (.long p1), .second, .val (.int p2), .val (.int p3), .val (.int p4), .val (.ref a1), .val (.int nt), .val (.int nf), .val (.int (3 : Int32)), .val (.int (-1 : Int32))] [(.int (-1 : Int32)), (.int (own_pde_0 (fun i => ([v0, v1, v2, v3, v4] : List Int32).getD i 0) nf nt))])) _
                refine XS.icmpNo X51.here hx rfl (hb hby at_245) rfl (teq hc245_52).2 ?_
                show Steps p.tables e below (T51.setTop (mkF m 248 #[.val (.long p1), .second, .val (.int p2), .val (.int p3), .val (.int p4), .val (.ref a1), .val (.int nt), .val (.int nf), .val (.int (3 : Int32)), .val (.int (-1 : Int32))] [])) _
                refine XS.iconst X51.here hx rfl (hb hby at_248) ?_
                show Steps p.tables e below (T51.setTop (mkF m 249 #[.val (.long p1), .second, .val (.int p2), .val (.int p3), .val (.int p4), .val (.ref a1), .val (.int nt), .val (.int nf), .val (.int (3 : Int32)), .val (.int (-1 : Int32))] [(.int (1 : Int32))])) _
                refine XS.goto X51.here hx rfl (pc0 := 249) (pc' := 253) rfl (hb hby at_249) (by decide) (by decide) ?_
                show Steps p.tables e below (T51.setTop (mkF m 253 #[.val (.long p1), .second, .val (.int p2), .val (.int p3), .val (.int p4), .val (.ref a1), .val (.int nt), .val (.int nf), .val (.int (3 : Int32)), .val (.int (-1 : Int32))] [(.int (1 : Int32))])) _
                exact retN X51 hx (t := .boolean) Bd.returns (by simp) (hb hby at_253) hr
              · exact ⟨rfl, N51⟩
            · obtain ⟨_, _, ⟨T53, uL53, uk53, un53⟩, -, X53, ⟨Lc53, hQ53, ul53, uy53, uz53⟩, st53⟩ := Jvm.LawKit.callS X36 hx (y := (⟨"com/example/fieldbook/fieldbook/Field", "plainDataEnd", "([BII)I"⟩ : MethodName)) hown (mvT hZ (hw _ (List.mem_of_getElem? (i := 9) rfl))) (mvT hZ (hw _ (List.mem_of_getElem? (i := 10) rfl))) (mvT hZ (hw _ (List.mem_of_getElem? (i := 11) rfl))) (mvT hZ (hw _ (List.mem_of_getElem? (i := 12) rfl))) (by decide) (backOf (W := 0) (rm3 l Z a0 hw [] a1 cl29 (fun i => ([v0, v1, v2, v3, v4] : List Int32).getD i 0) (5 : Int32) nf nt h25 n0 Z25 Ar29 S29 M29 (own_has (xs := ([v0, v1, v2, v3, v4] : List Int32)) H29 S29) q2.1 q2.2 q3) hZ (hw _ (List.mem_of_getElem? (i := 12) rfl)) (hw _ (List.mem_of_getElem? (i := 11) rfl)) (by decide) (by decide)) (g := (mkF m 240 #[.val (.long p1), .second, .val (.int p2), .val (.int p3), .val (.int p4), .val (.ref a1), .val (.int nt), .val (.int nf), .val (.int (3 : Int32)), .val (.int (3 : Int32))] [(.int nt), (.int nf), (.ref a1)])) rfl (by rw [hml]; rfl) (argsL := [(.ref a1), (.int nf), (.int nt)]) (rest := []) (lenOf pd__28_5bBII_29I rfl) rfl (by show 2 * 0 + _ ≤ _; exact Nat.le_of_eq rfl) (hb hby at_240) (fun _ _ => ⟨rfl, e36, (by decide : 1 + 0 ≤ _), (by decide : 5 + 0 ≤ _)⟩)
              dsimp only [Pt.U, Pt.locs, Pt.cells, Pt.slots] at X53 ul53 uy53 uz53 st53 hQ53
              subst ul53 uy53 uz53
              obtain ⟨rfl, Nq53, e53⟩ := hQ53
              have N53 := Fr.app N36 Nq53
              have hc245_54 : (own_pde_0 (fun i => ([v0, v1, v2, v3, v4] : List Int32).getD i 0) nf nt) = (3 : Int32) := by rw [own_fin _ _ _ q2.1 q2.2 q1.2, own_exp, if_pos hc94, if_pos hc115, if_pos hc136, if_neg hc157, own_e, if_neg hc202]; exact if_neg hc221
              refine own_end X53 Bd.notSynchronized (v := some (.int (1 : Int32))) (fun h => by rw [Bd.returns] at h; cases h) (fun fs hr => ?_) e53 ?_ (by decide) (by decide)
              · show Steps p.tables e below (T36.setTop (mkF m 221 #[.val (.long p1), .second, .val (.int p2), .val (.int p3), .val (.int p4), .val (.ref a1), .val (.int nt), .val (.int nf), .val (.int (3 : Int32)), .unset] [(.int (94 : Int32)), (.int v4)])) _
                refine XS.icmpNo X36.here hx rfl (hb hby at_221) rfl (feq hc221).1 ?_
                show Steps p.tables e below (T36.setTop (mkF m 224 #[.val (.long p1), .second, .val (.int p2), .val (.int p3), .val (.int p4), .val (.ref a1), .val (.int nt), .val (.int nf), .val (.int (3 : Int32)), .unset] [])) _
                refine XS.iload X36.here hx rfl (hb hby at_224) rfl ?_
                show Steps p.tables e below (T36.setTop (mkF m 226 #[.val (.long p1), .second, .val (.int p2), .val (.int p3), .val (.int p4), .val (.ref a1), .val (.int nt), .val (.int nf), .val (.int (3 : Int32)), .unset] [(.int (3 : Int32))])) _
                refine XS.istore X36.here hx rfl (hb hby at_226) rfl (l' := #[.val (.long p1), .second, .val (.int p2), .val (.int p3), .val (.int p4), .val (.ref a1), .val (.int nt), .val (.int nf), .val (.int (3 : Int32)), .val (.int (3 : Int32))]) rfl ?_
                show Steps p.tables e below (T36.setTop (mkF m 228 #[.val (.long p1), .second, .val (.int p2), .val (.int p3), .val (.int p4), .val (.ref a1), .val (.int nt), .val (.int nf), .val (.int (3 : Int32)), .val (.int (3 : Int32))] [])) _
                refine XS.goto X36.here hx rfl (pc0 := 228) (pc' := 234) rfl (hb hby at_228) (by decide) (by decide) ?_
                show Steps p.tables e below (T36.setTop (mkF m 234 #[.val (.long p1), .second, .val (.int p2), .val (.int p3), .val (.int p4), .val (.ref a1), .val (.int nt), .val (.int nf), .val (.int (3 : Int32)), .val (.int (3 : Int32))] [])) _
                refine XS.aload X36.here hx rfl (hb hby at_234) rfl rfl ?_
                show Steps p.tables e below (T36.setTop (mkF m 236 #[.val (.long p1), .second, .val (.int p2), .val (.int p3), .val (.int p4), .val (.ref a1), .val (.int nt), .val (.int nf), .val (.int (3 : Int32)), .val (.int (3 : Int32))] [(.ref a1)])) _
                refine XS.iload X36.here hx rfl (hb hby at_236) rfl ?_
                show Steps p.tables e below (T36.setTop (mkF m 238 #[.val (.long p1), .second, .val (.int p2), .val (.int p3), .val (.int p4), .val (.ref a1), .val (.int nt), .val (.int nf), .val (.int (3 : Int32)), .val (.int (3 : Int32))] [(.int nf), (.ref a1)])) _
                refine XS.iload X36.here hx rfl (hb hby at_238) rfl ?_
                show Steps p.tables e below (T36.setTop (mkF m 240 #[.val (.long p1), .second, .val (.int p2), .val (.int p3), .val (.int p4), .val (.ref a1), .val (.int nt), .val (.int nf), .val (.int (3 : Int32)), .val (.int (3 : Int32))] [(.int nt), (.int nf), (.ref a1)])) _
                refine st53 _ ?_
                show Steps p.tables e below (T53.setTop (mkF m 243 #[.val (.long p1), .second, .val (.int p2), .val (.int p3), .val (.int p4), .val (.ref a1), .val (.int nt), .val (.int nf), .val (.int (3 : Int32)), .val (.int (3 : Int32))] [(.int (own_pde_0 (fun i => ([v0, v1, v2, v3, v4] : List Int32).getD i 0) nf nt))])) _
                refine XS.iload X53.here hx rfl (hb hby at_243) rfl ?_
                show Steps p.tables e below (T53.setTop (mkF m 245 #[.val (.long p1), .second, .val (.int p2), .val (.int p3), .val (.int p4), .val (.ref a1), .val (.int nt), .val (.int nf), .val (.int (3 : Int32)), .val (.int (3 : Int32))] [(.int (3 : Int32)), (.int (own_pde_0 (fun i => ([v0, v1, v2, v3, v4] : List Int32).getD i 0) nf nt))])) _
                refine XS.icmpNo X53.here hx rfl (hb hby at_245) rfl (teq hc245_54).2 ?_
                show Steps p.tables e below (T53.setTop (mkF m 248 #[.val (.long p1), .second, .val (.int p2), .val (.int p3), .val (.int p4), .val (.ref a1), .val (.int nt), .val (.int nf), .val (.int (3 : Int32)), .val (.int (3 : Int32))] [])) _
                refine XS.iconst X53.here hx rfl (hb hby at_248) ?_
                show Steps p.tables e below (T53.setTop (mkF m 249 #[.val (.long p1), .second, .val (.int p2), .val (.int p3), .val (.int p4), .val (.ref a1), .val (.int nt), .val (.int nf), .val (.int (3 : Int32)), .val (.int (3 : Int32))] [(.int (1 : Int32))])) _
                refine XS.goto X53.here hx rfl (pc0 := 249) (pc' := 253) rfl (hb hby at_249) (by decide) (by decide) ?_
                show Steps p.tables e below (T53.setTop (mkF m 253 #[.val (.long p1), .second, .val (.int p2), .val (.int p3), .val (.int p4), .val (.ref a1), .val (.int nt), .val (.int nf), .val (.int (3 : Int32)), .val (.int (3 : Int32))] [(.int (1 : Int32))])) _
                exact retN X53 hx (t := .boolean) Bd.returns (by simp) (hb hby at_253) hr
              · exact ⟨rfl, N53⟩
      · have hc144_55 : ¬ ((2 : Int32) < (0 : Int32)) := (by decide)
        have hc165_56 : ¬ ((2 : Int32) < (0 : Int32)) := (by decide)
        have hc186_57 : ¬ ((2 : Int32) < (0 : Int32)) := (by decide)
        refine own_go (b := T34.setTop (mkF m 202 #[.val (.long p1), .second, .val (.int p2), .val (.int p3), .val (.int p4), .val (.ref a1), .val (.int nt), .val (.int nf), .val (.int (2 : Int32)), .unset] [(.int nt), (.int (3 : Int32))])) (fun t k => ?_) ?_
        · show Steps p.tables e below (T34.setTop (mkF m 136 #[.val (.long p1), .second, .val (.int p2), .val (.int p3), .val (.int p4), .val (.ref a1), .val (.int nt), .val (.int nf), .val (.int (-1 : Int32)), .unset] [(.int (own_mark_0 (fun i => ([v0, v1, v2, v3, v4] : List Int32).getD i 0) (2 : Int32) nf nt))])) _
          refine XS.ifNo X34.here hx rfl (hb hby at_136) rfl ((if0 _ _).trans (feq hc136).1) ?_
          show Steps p.tables e below (T34.setTop (mkF m 139 #[.val (.long p1), .second, .val (.int p2), .val (.int p3), .val (.int p4), .val (.ref a1), .val (.int nt), .val (.int nf), .val (.int (-1 : Int32)), .unset] [])) _
          refine XS.iconst X34.here hx rfl (hb hby at_139) ?_
          show Steps p.tables e below (T34.setTop (mkF m 140 #[.val (.long p1), .second, .val (.int p2), .val (.int p3), .val (.int p4), .val (.ref a1), .val (.int nt), .val (.int nf), .val (.int (-1 : Int32)), .unset] [(.int (2 : Int32))])) _
          refine XS.istore X34.here hx rfl (hb hby at_140) rfl (l' := #[.val (.long p1), .second, .val (.int p2), .val (.int p3), .val (.int p4), .val (.ref a1), .val (.int nt), .val (.int nf), .val (.int (2 : Int32)), .unset]) rfl ?_
          show Steps p.tables e below (T34.setTop (mkF m 142 #[.val (.long p1), .second, .val (.int p2), .val (.int p3), .val (.int p4), .val (.ref a1), .val (.int nt), .val (.int nf), .val (.int (2 : Int32)), .unset] [])) _
          refine XS.iload X34.here hx rfl (hb hby at_142) rfl ?_
          show Steps p.tables e below (T34.setTop (mkF m 144 #[.val (.long p1), .second, .val (.int p2), .val (.int p3), .val (.int p4), .val (.ref a1), .val (.int nt), .val (.int nf), .val (.int (2 : Int32)), .unset] [(.int (2 : Int32))])) _
          refine XS.ifYes X34.here hx rfl (pc0 := 144) (pc' := 163) rfl (hb hby at_144) rfl ((if0 _ _).trans (flt hc144_55).2.1) (by decide) (by decide) ?_
          show Steps p.tables e below (T34.setTop (mkF m 163 #[.val (.long p1), .second, .val (.int p2), .val (.int p3), .val (.int p4), .val (.ref a1), .val (.int nt), .val (.int nf), .val (.int (2 : Int32)), .unset] [])) _
          refine XS.iload X34.here hx rfl (hb hby at_163) rfl ?_
          show Steps p.tables e below (T34.setTop (mkF m 165 #[.val (.long p1), .second, .val (.int p2), .val (.int p3), .val (.int p4), .val (.ref a1), .val (.int nt), .val (.int nf), .val (.int (2 : Int32)), .unset] [(.int (2 : Int32))])) _
          refine XS.ifYes X34.here hx rfl (pc0 := 165) (pc' := 184) rfl (hb hby at_165) rfl ((if0 _ _).trans (flt hc165_56).2.1) (by decide) (by decide) ?_
          show Steps p.tables e below (T34.setTop (mkF m 184 #[.val (.long p1), .second, .val (.int p2), .val (.int p3), .val (.int p4), .val (.ref a1), .val (.int nt), .val (.int nf), .val (.int (2 : Int32)), .unset] [])) _
          refine XS.iload X34.here hx rfl (hb hby at_184) rfl ?_
          show Steps p.tables e below (T34.setTop (mkF m 186 #[.val (.long p1), .second, .val (.int p2), .val (.int p3), .val (.int p4), .val (.ref a1), .val (.int nt), .val (.int nf), .val (.int (2 : Int32)), .unset] [(.int (2 : Int32))])) _
          refine XS.ifYes X34.here hx rfl (pc0 := 186) (pc' := 196) rfl (hb hby at_186) rfl ((if0 _ _).trans (flt hc186_57).2.1) (by decide) (by decide) ?_
          show Steps p.tables e below (T34.setTop (mkF m 196 #[.val (.long p1), .second, .val (.int p2), .val (.int p3), .val (.int p4), .val (.ref a1), .val (.int nt), .val (.int nf), .val (.int (2 : Int32)), .unset] [])) _
          refine XS.iload X34.here hx rfl (hb hby at_196) rfl ?_
          show Steps p.tables e below (T34.setTop (mkF m 198 #[.val (.long p1), .second, .val (.int p2), .val (.int p3), .val (.int p4), .val (.ref a1), .val (.int nt), .val (.int nf), .val (.int (2 : Int32)), .unset] [(.int (2 : Int32))])) _
          refine XS.iconst X34.here hx rfl (hb hby at_198) ?_
          show Steps p.tables e below (T34.setTop (mkF m 199 #[.val (.long p1), .second, .val (.int p2), .val (.int p3), .val (.int p4), .val (.ref a1), .val (.int nt), .val (.int nf), .val (.int (2 : Int32)), .unset] [(.int (1 : Int32)), (.int (2 : Int32))])) _
          refine XS.iadd X34.here hx rfl (hb hby at_199) rfl ?_
          show Steps p.tables e below (T34.setTop (mkF m 200 #[.val (.long p1), .second, .val (.int p2), .val (.int p3), .val (.int p4), .val (.ref a1), .val (.int nt), .val (.int nf), .val (.int (2 : Int32)), .unset] [(.int (3 : Int32))])) _
          refine XS.iload X34.here hx rfl (hb hby at_200) rfl ?_
          show Steps p.tables e below (T34.setTop (mkF m 202 #[.val (.long p1), .second, .val (.int p2), .val (.int p3), .val (.int p4), .val (.ref a1), .val (.int nt), .val (.int nf), .val (.int (2 : Int32)), .unset] [(.int nt), (.int (3 : Int32))])) _
          exact k
        by_cases hc202 : (3 : Int32) = nt
        · obtain ⟨_, _, ⟨T58, uL58, uk58, un58⟩, -, X58, ⟨Lc58, hQ58, ul58, uy58, uz58⟩, st58⟩ := Jvm.LawKit.callS X34 hx (y := (⟨"com/example/fieldbook/fieldbook/Field", "plainDataEnd", "([BII)I"⟩ : MethodName)) hown (mvT hZ (hw _ (List.mem_of_getElem? (i := 9) rfl))) (mvT hZ (hw _ (List.mem_of_getElem? (i := 10) rfl))) (mvT hZ (hw _ (List.mem_of_getElem? (i := 11) rfl))) (mvT hZ (hw _ (List.mem_of_getElem? (i := 12) rfl))) (by decide) (backOf (W := 0) (rm3 l Z a0 hw [] a1 cl29 (fun i => ([v0, v1, v2, v3, v4] : List Int32).getD i 0) (5 : Int32) nf nt h25 n0 Z25 Ar29 S29 M29 (own_has (xs := ([v0, v1, v2, v3, v4] : List Int32)) H29 S29) q2.1 q2.2 q3) hZ (hw _ (List.mem_of_getElem? (i := 12) rfl)) (hw _ (List.mem_of_getElem? (i := 11) rfl)) (by decide) (by decide)) (g := (mkF m 240 #[.val (.long p1), .second, .val (.int p2), .val (.int p3), .val (.int p4), .val (.ref a1), .val (.int nt), .val (.int nf), .val (.int (2 : Int32)), .val (.int (2 : Int32))] [(.int nt), (.int nf), (.ref a1)])) rfl (by rw [hml]; rfl) (argsL := [(.ref a1), (.int nf), (.int nt)]) (rest := []) (lenOf pd__28_5bBII_29I rfl) rfl (by show 2 * 0 + _ ≤ _; exact Nat.le_of_eq rfl) (hb hby at_240) (fun _ _ => ⟨rfl, e34, (by decide : 1 + 0 ≤ _), (by decide : 5 + 0 ≤ _)⟩)
          dsimp only [Pt.U, Pt.locs, Pt.cells, Pt.slots] at X58 ul58 uy58 uz58 st58 hQ58
          subst ul58 uy58 uz58
          obtain ⟨rfl, Nq58, e58⟩ := hQ58
          have N58 := Fr.app N34 Nq58
          have hc245_59 : (own_pde_0 (fun i => ([v0, v1, v2, v3, v4] : List Int32).getD i 0) nf nt) = (2 : Int32) := by rw [own_fin _ _ _ q2.1 q2.2 q1.2, own_exp, if_pos hc94, if_pos hc115, if_neg hc136, own_e, if_pos hc202]
          refine own_end X58 Bd.notSynchronized (v := some (.int (1 : Int32))) (fun h => by rw [Bd.returns] at h; cases h) (fun fs hr => ?_) e58 ?_ (by decide) (by decide)
          · show Steps p.tables e below (T34.setTop (mkF m 202 #[.val (.long p1), .second, .val (.int p2), .val (.int p3), .val (.int p4), .val (.ref a1), .val (.int nt), .val (.int nf), .val (.int (2 : Int32)), .unset] [(.int nt), (.int (3 : Int32))])) _
            refine XS.icmpNo X34.here hx rfl (hb hby at_202) rfl (teq hc202).2 ?_
            show Steps p.tables e below (T34.setTop (mkF m 205 #[.val (.long p1), .second, .val (.int p2), .val (.int p3), .val (.int p4), .val (.ref a1), .val (.int nt), .val (.int nf), .val (.int (2 : Int32)), .unset] [])) _
            refine XS.iload X34.here hx rfl (hb hby at_205) rfl ?_
            show Steps p.tables e below (T34.setTop (mkF m 207 #[.val (.long p1), .second, .val (.int p2), .val (.int p3), .val (.int p4), .val (.ref a1), .val (.int nt), .val (.int nf), .val (.int (2 : Int32)), .unset] [(.int (2 : Int32))])) _
            refine XS.istore X34.here hx rfl (hb hby at_207) rfl (l' := #[.val (.long p1), .second, .val (.int p2), .val (.int p3), .val (.int p4), .val (.ref a1), .val (.int nt), .val (.int nf), .val (.int (2 : Int32)), .val (.int (2 : Int32))]) rfl ?_
            show Steps p.tables e below (T34.setTop (mkF m 209 #[.val (.long p1), .second, .val (.int p2), .val (.int p3), .val (.int p4), .val (.ref a1), .val (.int nt), .val (.int nf), .val (.int (2 : Int32)), .val (.int (2 : Int32))] [])) _
            refine XS.goto X34.here hx rfl (pc0 := 209) (pc' := 234) rfl (hb hby at_209) (by decide) (by decide) ?_
            show Steps p.tables e below (T34.setTop (mkF m 234 #[.val (.long p1), .second, .val (.int p2), .val (.int p3), .val (.int p4), .val (.ref a1), .val (.int nt), .val (.int nf), .val (.int (2 : Int32)), .val (.int (2 : Int32))] [])) _
            refine XS.aload X34.here hx rfl (hb hby at_234) rfl rfl ?_
            show Steps p.tables e below (T34.setTop (mkF m 236 #[.val (.long p1), .second, .val (.int p2), .val (.int p3), .val (.int p4), .val (.ref a1), .val (.int nt), .val (.int nf), .val (.int (2 : Int32)), .val (.int (2 : Int32))] [(.ref a1)])) _
            refine XS.iload X34.here hx rfl (hb hby at_236) rfl ?_
            show Steps p.tables e below (T34.setTop (mkF m 238 #[.val (.long p1), .second, .val (.int p2), .val (.int p3), .val (.int p4), .val (.ref a1), .val (.int nt), .val (.int nf), .val (.int (2 : Int32)), .val (.int (2 : Int32))] [(.int nf), (.ref a1)])) _
            refine XS.iload X34.here hx rfl (hb hby at_238) rfl ?_
            show Steps p.tables e below (T34.setTop (mkF m 240 #[.val (.long p1), .second, .val (.int p2), .val (.int p3), .val (.int p4), .val (.ref a1), .val (.int nt), .val (.int nf), .val (.int (2 : Int32)), .val (.int (2 : Int32))] [(.int nt), (.int nf), (.ref a1)])) _
            refine st58 _ ?_
            show Steps p.tables e below (T58.setTop (mkF m 243 #[.val (.long p1), .second, .val (.int p2), .val (.int p3), .val (.int p4), .val (.ref a1), .val (.int nt), .val (.int nf), .val (.int (2 : Int32)), .val (.int (2 : Int32))] [(.int (own_pde_0 (fun i => ([v0, v1, v2, v3, v4] : List Int32).getD i 0) nf nt))])) _
            refine XS.iload X58.here hx rfl (hb hby at_243) rfl ?_
            show Steps p.tables e below (T58.setTop (mkF m 245 #[.val (.long p1), .second, .val (.int p2), .val (.int p3), .val (.int p4), .val (.ref a1), .val (.int nt), .val (.int nf), .val (.int (2 : Int32)), .val (.int (2 : Int32))] [(.int (2 : Int32)), (.int (own_pde_0 (fun i => ([v0, v1, v2, v3, v4] : List Int32).getD i 0) nf nt))])) _
            refine XS.icmpNo X58.here hx rfl (hb hby at_245) rfl (teq hc245_59).2 ?_
            show Steps p.tables e below (T58.setTop (mkF m 248 #[.val (.long p1), .second, .val (.int p2), .val (.int p3), .val (.int p4), .val (.ref a1), .val (.int nt), .val (.int nf), .val (.int (2 : Int32)), .val (.int (2 : Int32))] [])) _
            refine XS.iconst X58.here hx rfl (hb hby at_248) ?_
            show Steps p.tables e below (T58.setTop (mkF m 249 #[.val (.long p1), .second, .val (.int p2), .val (.int p3), .val (.int p4), .val (.ref a1), .val (.int nt), .val (.int nf), .val (.int (2 : Int32)), .val (.int (2 : Int32))] [(.int (1 : Int32))])) _
            refine XS.goto X58.here hx rfl (pc0 := 249) (pc' := 253) rfl (hb hby at_249) (by decide) (by decide) ?_
            show Steps p.tables e below (T58.setTop (mkF m 253 #[.val (.long p1), .second, .val (.int p2), .val (.int p3), .val (.int p4), .val (.ref a1), .val (.int nt), .val (.int nf), .val (.int (2 : Int32)), .val (.int (2 : Int32))] [(.int (1 : Int32))])) _
            exact retN X58 hx (t := .boolean) Bd.returns (by simp) (hb hby at_253) hr
          · exact ⟨rfl, N58⟩
        · have hi60 : ¬ (3 : Int32) < 0 ∧ (3 : Int32).toNatClampNeg < (5 : Int32).toNatClampNeg := by decide
          have ha60 : cl29.slots[(3 : Int32).toNatClampNeg]? = some (.int v3) := H29 _ (by rw [S29]; exact hi60.2)
          refine own_go (b := T34.setTop (mkF m 221 #[.val (.long p1), .second, .val (.int p2), .val (.int p3), .val (.int p4), .val (.ref a1), .val (.int nt), .val (.int nf), .val (.int (2 : Int32)), .unset] [(.int (94 : Int32)), (.int v3)])) (fun t k => ?_) ?_
          · show Steps p.tables e below (T34.setTop (mkF m 202 #[.val (.long p1), .second, .val (.int p2), .val (.int p3), .val (.int p4), .val (.ref a1), .val (.int nt), .val (.int nf), .val (.int (2 : Int32)), .unset] [(.int nt), (.int (3 : Int32))])) _
            refine XS.icmpYes X34.here hx rfl (pc0 := 202) (pc' := 212) rfl (hb hby at_202) rfl (feq hc202).2 (by decide) (by decide) ?_
            show Steps p.tables e below (T34.setTop (mkF m 212 #[.val (.long p1), .second, .val (.int p2), .val (.int p3), .val (.int p4), .val (.ref a1), .val (.int nt), .val (.int nf), .val (.int (2 : Int32)), .unset] [])) _
            refine XS.aload X34.here hx rfl (hb hby at_212) rfl rfl ?_
            show Steps p.tables e below (T34.setTop (mkF m 214 #[.val (.long p1), .second, .val (.int p2), .val (.int p3), .val (.int p4), .val (.ref a1), .val (.int nt), .val (.int nf), .val (.int (2 : Int32)), .unset] [(.ref a1)])) _
            refine XS.iload X34.here hx rfl (hb hby at_214) rfl ?_
            show Steps p.tables e below (T34.setTop (mkF m 216 #[.val (.long p1), .second, .val (.int p2), .val (.int p3), .val (.int p4), .val (.ref a1), .val (.int nt), .val (.int nf), .val (.int (2 : Int32)), .unset] [(.int (2 : Int32)), (.ref a1)])) _
            refine XS.iconst X34.here hx rfl (hb hby at_216) ?_
            show Steps p.tables e below (T34.setTop (mkF m 217 #[.val (.long p1), .second, .val (.int p2), .val (.int p3), .val (.int p4), .val (.ref a1), .val (.int nt), .val (.int nf), .val (.int (2 : Int32)), .unset] [(.int (1 : Int32)), (.int (2 : Int32)), (.ref a1)])) _
            refine XS.iadd X34.here hx rfl (hb hby at_217) rfl ?_
            show Steps p.tables e below (T34.setTop (mkF m 218 #[.val (.long p1), .second, .val (.int p2), .val (.int p3), .val (.int p4), .val (.ref a1), .val (.int nt), .val (.int nf), .val (.int (2 : Int32)), .unset] [(.int (3 : Int32)), (.ref a1)])) _
            refine X34.baloadBytes hx (j := (3 : Int32)) (v := (.int v3)) (by rw [e34]; exact Ar29.1) (State.isArrayOf_alike hZ.alike Ar29.2.1) Ar29.2.2 (own_hin S29 hi60) ha60 (g := (mkF m 218 #[.val (.long p1), .second, .val (.int p2), .val (.int p3), .val (.int p4), .val (.ref a1), .val (.int nt), .val (.int nf), .val (.int (2 : Int32)), .unset] [(.int (3 : Int32)), (.ref a1)])) rfl rfl (hb hby at_218) _ ?_
            show Steps p.tables e below (T34.setTop (mkF m 219 #[.val (.long p1), .second, .val (.int p2), .val (.int p3), .val (.int p4), .val (.ref a1), .val (.int nt), .val (.int nf), .val (.int (2 : Int32)), .unset] [(.int v3)])) _
            refine XS.bipush X34.here hx rfl (hb hby at_219) ?_
            show Steps p.tables e below (T34.setTop (mkF m 221 #[.val (.long p1), .second, .val (.int p2), .val (.int p3), .val (.int p4), .val (.ref a1), .val (.int nt), .val (.int nf), .val (.int (2 : Int32)), .unset] [(.int (94 : Int32)), (.int v3)])) _
            exact k
          by_cases hc221 : v3 = (94 : Int32)
          · obtain ⟨_, _, ⟨T61, uL61, uk61, un61⟩, -, X61, ⟨Lc61, hQ61, ul61, uy61, uz61⟩, st61⟩ := Jvm.LawKit.callS X34 hx (y := (⟨"com/example/fieldbook/fieldbook/Field", "plainDataEnd", "([BII)I"⟩ : MethodName)) hown (mvT hZ (hw _ (List.mem_of_getElem? (i := 9) rfl))) (mvT hZ (hw _ (List.mem_of_getElem? (i := 10) rfl))) (mvT hZ (hw _ (List.mem_of_getElem? (i := 11) rfl))) (mvT hZ (hw _ (List.mem_of_getElem? (i := 12) rfl))) (by decide) (backOf (W := 0) (rm3 l Z a0 hw [] a1 cl29 (fun i => ([v0, v1, v2, v3, v4] : List Int32).getD i 0) (5 : Int32) nf nt h25 n0 Z25 Ar29 S29 M29 (own_has (xs := ([v0, v1, v2, v3, v4] : List Int32)) H29 S29) q2.1 q2.2 q3) hZ (hw _ (List.mem_of_getElem? (i := 12) rfl)) (hw _ (List.mem_of_getElem? (i := 11) rfl)) (by decide) (by decide)) (g := (mkF m 240 #[.val (.long p1), .second, .val (.int p2), .val (.int p3), .val (.int p4), .val (.ref a1), .val (.int nt), .val (.int nf), .val (.int (2 : Int32)), .val (.int (-1 : Int32))] [(.int nt), (.int nf), (.ref a1)])) rfl (by rw [hml]; rfl) (argsL := [(.ref a1), (.int nf), (.int nt)]) (rest := []) (lenOf pd__28_5bBII_29I rfl) rfl (by show 2 * 0 + _ ≤ _; exact Nat.le_of_eq rfl) (hb hby at_240) (fun _ _ => ⟨rfl, e34, (by decide : 1 + 0 ≤ _), (by decide : 5 + 0 ≤ _)⟩)
            dsimp only [Pt.U, Pt.locs, Pt.cells, Pt.slots] at X61 ul61 uy61 uz61 st61 hQ61
            subst ul61 uy61 uz61
            obtain ⟨rfl, Nq61, e61⟩ := hQ61
            have N61 := Fr.app N34 Nq61
            have hc245_62 : (own_pde_0 (fun i => ([v0, v1, v2, v3, v4] : List Int32).getD i 0) nf nt) = (-1 : Int32) := by rw [own_fin _ _ _ q2.1 q2.2 q1.2, own_exp, if_pos hc94, if_pos hc115, if_neg hc136, own_e, if_neg hc202]; exact if_pos hc221
            refine own_end X61 Bd.notSynchronized (v := some (.int (1 : Int32))) (fun h => by rw [Bd.returns] at h; cases h) (fun fs hr => ?_) e61 ?_ (by decide) (by decide)
            · show Steps p.tables e below (T34.setTop (mkF m 221 #[.val (.long p1), .second, .val (.int p2), .val (.int p3), .val (.int p4), .val (.ref a1), .val (.int nt), .val (.int nf), .val (.int (2 : Int32)), .unset] [(.int (94 : Int32)), (.int v3)])) _
              refine XS.icmpYes X34.here hx rfl (pc0 := 221) (pc' := 231) rfl (hb hby at_221) rfl (teq hc221).1 (by decide) (by decide) ?_
              show Steps p.tables e below (T34.setTop (mkF m 231 #[.val (.long p1), .second, .val (.int p2), .val (.int p3), .val (.int p4), .val (.ref a1), .val (.int nt), .val (.int nf), .val (.int (2 : Int32)), .unset] [])) _
              refine XS.iconst X34.here hx rfl (hb hby at_231) ?_
              show Steps p.tables e below (T34.setTop (mkF m 232 #[.val (.long p1), .second, .val (.int p2), .val (.int p3), .val (.int p4), .val (.ref a1), .val (.int nt), .val (.int nf), .val (.int (2 : Int32)), .unset] [(.int (-1 : Int32))])) _
              refine XS.istore X34.here hx rfl (hb hby at_232) rfl (l' := #[.val (.long p1), .second, .val (.int p2), .val (.int p3), .val (.int p4), .val (.ref a1), .val (.int nt), .val (.int nf), .val (.int (2 : Int32)), .val (.int (-1 : Int32))]) rfl ?_
              show Steps p.tables e below (T34.setTop (mkF m 234 #[.val (.long p1), .second, .val (.int p2), .val (.int p3), .val (.int p4), .val (.ref a1), .val (.int nt), .val (.int nf), .val (.int (2 : Int32)), .val (.int (-1 : Int32))] [])) _
              refine XS.aload X34.here hx rfl (hb hby at_234) rfl rfl ?_
              show Steps p.tables e below (T34.setTop (mkF m 236 #[.val (.long p1), .second, .val (.int p2), .val (.int p3), .val (.int p4), .val (.ref a1), .val (.int nt), .val (.int nf), .val (.int (2 : Int32)), .val (.int (-1 : Int32))] [(.ref a1)])) _
              refine XS.iload X34.here hx rfl (hb hby at_236) rfl ?_
              show Steps p.tables e below (T34.setTop (mkF m 238 #[.val (.long p1), .second, .val (.int p2), .val (.int p3), .val (.int p4), .val (.ref a1), .val (.int nt), .val (.int nf), .val (.int (2 : Int32)), .val (.int (-1 : Int32))] [(.int nf), (.ref a1)])) _
              refine XS.iload X34.here hx rfl (hb hby at_238) rfl ?_
              show Steps p.tables e below (T34.setTop (mkF m 240 #[.val (.long p1), .second, .val (.int p2), .val (.int p3), .val (.int p4), .val (.ref a1), .val (.int nt), .val (.int nf), .val (.int (2 : Int32)), .val (.int (-1 : Int32))] [(.int nt), (.int nf), (.ref a1)])) _
              refine st61 _ ?_
              show Steps p.tables e below (T61.setTop (mkF m 243 #[.val (.long p1), .second, .val (.int p2), .val (.int p3), .val (.int p4), .val (.ref a1), .val (.int nt), .val (.int nf), .val (.int (2 : Int32)), .val (.int (-1 : Int32))] [(.int (own_pde_0 (fun i => ([v0, v1, v2, v3, v4] : List Int32).getD i 0) nf nt))])) _
              refine XS.iload X61.here hx rfl (hb hby at_243) rfl ?_
              show Steps p.tables e below (T61.setTop (mkF m 245 #[.val (.long p1), .second, .val (.int p2), .val (.int p3), .val (.int p4), .val (.ref a1), .val (.int nt), .val (.int nf), .val (.int (2 : Int32)), .val (.int (-1 : Int32))] [(.int (-1 : Int32)), (.int (own_pde_0 (fun i => ([v0, v1, v2, v3, v4] : List Int32).getD i 0) nf nt))])) _
              refine XS.icmpNo X61.here hx rfl (hb hby at_245) rfl (teq hc245_62).2 ?_
              show Steps p.tables e below (T61.setTop (mkF m 248 #[.val (.long p1), .second, .val (.int p2), .val (.int p3), .val (.int p4), .val (.ref a1), .val (.int nt), .val (.int nf), .val (.int (2 : Int32)), .val (.int (-1 : Int32))] [])) _
              refine XS.iconst X61.here hx rfl (hb hby at_248) ?_
              show Steps p.tables e below (T61.setTop (mkF m 249 #[.val (.long p1), .second, .val (.int p2), .val (.int p3), .val (.int p4), .val (.ref a1), .val (.int nt), .val (.int nf), .val (.int (2 : Int32)), .val (.int (-1 : Int32))] [(.int (1 : Int32))])) _
              refine XS.goto X61.here hx rfl (pc0 := 249) (pc' := 253) rfl (hb hby at_249) (by decide) (by decide) ?_
              show Steps p.tables e below (T61.setTop (mkF m 253 #[.val (.long p1), .second, .val (.int p2), .val (.int p3), .val (.int p4), .val (.ref a1), .val (.int nt), .val (.int nf), .val (.int (2 : Int32)), .val (.int (-1 : Int32))] [(.int (1 : Int32))])) _
              exact retN X61 hx (t := .boolean) Bd.returns (by simp) (hb hby at_253) hr
            · exact ⟨rfl, N61⟩
          · obtain ⟨_, _, ⟨T63, uL63, uk63, un63⟩, -, X63, ⟨Lc63, hQ63, ul63, uy63, uz63⟩, st63⟩ := Jvm.LawKit.callS X34 hx (y := (⟨"com/example/fieldbook/fieldbook/Field", "plainDataEnd", "([BII)I"⟩ : MethodName)) hown (mvT hZ (hw _ (List.mem_of_getElem? (i := 9) rfl))) (mvT hZ (hw _ (List.mem_of_getElem? (i := 10) rfl))) (mvT hZ (hw _ (List.mem_of_getElem? (i := 11) rfl))) (mvT hZ (hw _ (List.mem_of_getElem? (i := 12) rfl))) (by decide) (backOf (W := 0) (rm3 l Z a0 hw [] a1 cl29 (fun i => ([v0, v1, v2, v3, v4] : List Int32).getD i 0) (5 : Int32) nf nt h25 n0 Z25 Ar29 S29 M29 (own_has (xs := ([v0, v1, v2, v3, v4] : List Int32)) H29 S29) q2.1 q2.2 q3) hZ (hw _ (List.mem_of_getElem? (i := 12) rfl)) (hw _ (List.mem_of_getElem? (i := 11) rfl)) (by decide) (by decide)) (g := (mkF m 240 #[.val (.long p1), .second, .val (.int p2), .val (.int p3), .val (.int p4), .val (.ref a1), .val (.int nt), .val (.int nf), .val (.int (2 : Int32)), .val (.int (2 : Int32))] [(.int nt), (.int nf), (.ref a1)])) rfl (by rw [hml]; rfl) (argsL := [(.ref a1), (.int nf), (.int nt)]) (rest := []) (lenOf pd__28_5bBII_29I rfl) rfl (by show 2 * 0 + _ ≤ _; exact Nat.le_of_eq rfl) (hb hby at_240) (fun _ _ => ⟨rfl, e34, (by decide : 1 + 0 ≤ _), (by decide : 5 + 0 ≤ _)⟩)
            dsimp only [Pt.U, Pt.locs, Pt.cells, Pt.slots] at X63 ul63 uy63 uz63 st63 hQ63
            subst ul63 uy63 uz63
            obtain ⟨rfl, Nq63, e63⟩ := hQ63
            have N63 := Fr.app N34 Nq63
            have hc245_64 : (own_pde_0 (fun i => ([v0, v1, v2, v3, v4] : List Int32).getD i 0) nf nt) = (2 : Int32) := by rw [own_fin _ _ _ q2.1 q2.2 q1.2, own_exp, if_pos hc94, if_pos hc115, if_neg hc136, own_e, if_neg hc202]; exact if_neg hc221
            refine own_end X63 Bd.notSynchronized (v := some (.int (1 : Int32))) (fun h => by rw [Bd.returns] at h; cases h) (fun fs hr => ?_) e63 ?_ (by decide) (by decide)
            · show Steps p.tables e below (T34.setTop (mkF m 221 #[.val (.long p1), .second, .val (.int p2), .val (.int p3), .val (.int p4), .val (.ref a1), .val (.int nt), .val (.int nf), .val (.int (2 : Int32)), .unset] [(.int (94 : Int32)), (.int v3)])) _
              refine XS.icmpNo X34.here hx rfl (hb hby at_221) rfl (feq hc221).1 ?_
              show Steps p.tables e below (T34.setTop (mkF m 224 #[.val (.long p1), .second, .val (.int p2), .val (.int p3), .val (.int p4), .val (.ref a1), .val (.int nt), .val (.int nf), .val (.int (2 : Int32)), .unset] [])) _
              refine XS.iload X34.here hx rfl (hb hby at_224) rfl ?_
              show Steps p.tables e below (T34.setTop (mkF m 226 #[.val (.long p1), .second, .val (.int p2), .val (.int p3), .val (.int p4), .val (.ref a1), .val (.int nt), .val (.int nf), .val (.int (2 : Int32)), .unset] [(.int (2 : Int32))])) _
              refine XS.istore X34.here hx rfl (hb hby at_226) rfl (l' := #[.val (.long p1), .second, .val (.int p2), .val (.int p3), .val (.int p4), .val (.ref a1), .val (.int nt), .val (.int nf), .val (.int (2 : Int32)), .val (.int (2 : Int32))]) rfl ?_
              show Steps p.tables e below (T34.setTop (mkF m 228 #[.val (.long p1), .second, .val (.int p2), .val (.int p3), .val (.int p4), .val (.ref a1), .val (.int nt), .val (.int nf), .val (.int (2 : Int32)), .val (.int (2 : Int32))] [])) _
              refine XS.goto X34.here hx rfl (pc0 := 228) (pc' := 234) rfl (hb hby at_228) (by decide) (by decide) ?_
              show Steps p.tables e below (T34.setTop (mkF m 234 #[.val (.long p1), .second, .val (.int p2), .val (.int p3), .val (.int p4), .val (.ref a1), .val (.int nt), .val (.int nf), .val (.int (2 : Int32)), .val (.int (2 : Int32))] [])) _
              refine XS.aload X34.here hx rfl (hb hby at_234) rfl rfl ?_
              show Steps p.tables e below (T34.setTop (mkF m 236 #[.val (.long p1), .second, .val (.int p2), .val (.int p3), .val (.int p4), .val (.ref a1), .val (.int nt), .val (.int nf), .val (.int (2 : Int32)), .val (.int (2 : Int32))] [(.ref a1)])) _
              refine XS.iload X34.here hx rfl (hb hby at_236) rfl ?_
              show Steps p.tables e below (T34.setTop (mkF m 238 #[.val (.long p1), .second, .val (.int p2), .val (.int p3), .val (.int p4), .val (.ref a1), .val (.int nt), .val (.int nf), .val (.int (2 : Int32)), .val (.int (2 : Int32))] [(.int nf), (.ref a1)])) _
              refine XS.iload X34.here hx rfl (hb hby at_238) rfl ?_
              show Steps p.tables e below (T34.setTop (mkF m 240 #[.val (.long p1), .second, .val (.int p2), .val (.int p3), .val (.int p4), .val (.ref a1), .val (.int nt), .val (.int nf), .val (.int (2 : Int32)), .val (.int (2 : Int32))] [(.int nt), (.int nf), (.ref a1)])) _
              refine st63 _ ?_
              show Steps p.tables e below (T63.setTop (mkF m 243 #[.val (.long p1), .second, .val (.int p2), .val (.int p3), .val (.int p4), .val (.ref a1), .val (.int nt), .val (.int nf), .val (.int (2 : Int32)), .val (.int (2 : Int32))] [(.int (own_pde_0 (fun i => ([v0, v1, v2, v3, v4] : List Int32).getD i 0) nf nt))])) _
              refine XS.iload X63.here hx rfl (hb hby at_243) rfl ?_
              show Steps p.tables e below (T63.setTop (mkF m 245 #[.val (.long p1), .second, .val (.int p2), .val (.int p3), .val (.int p4), .val (.ref a1), .val (.int nt), .val (.int nf), .val (.int (2 : Int32)), .val (.int (2 : Int32))] [(.int (2 : Int32)), (.int (own_pde_0 (fun i => ([v0, v1, v2, v3, v4] : List Int32).getD i 0) nf nt))])) _
              refine XS.icmpNo X63.here hx rfl (hb hby at_245) rfl (teq hc245_64).2 ?_
              show Steps p.tables e below (T63.setTop (mkF m 248 #[.val (.long p1), .second, .val (.int p2), .val (.int p3), .val (.int p4), .val (.ref a1), .val (.int nt), .val (.int nf), .val (.int (2 : Int32)), .val (.int (2 : Int32))] [])) _
              refine XS.iconst X63.here hx rfl (hb hby at_248) ?_
              show Steps p.tables e below (T63.setTop (mkF m 249 #[.val (.long p1), .second, .val (.int p2), .val (.int p3), .val (.int p4), .val (.ref a1), .val (.int nt), .val (.int nf), .val (.int (2 : Int32)), .val (.int (2 : Int32))] [(.int (1 : Int32))])) _
              refine XS.goto X63.here hx rfl (pc0 := 249) (pc' := 253) rfl (hb hby at_249) (by decide) (by decide) ?_
              show Steps p.tables e below (T63.setTop (mkF m 253 #[.val (.long p1), .second, .val (.int p2), .val (.int p3), .val (.int p4), .val (.ref a1), .val (.int nt), .val (.int nf), .val (.int (2 : Int32)), .val (.int (2 : Int32))] [(.int (1 : Int32))])) _
              exact retN X63 hx (t := .boolean) Bd.returns (by simp) (hb hby at_253) hr
            · exact ⟨rfl, N63⟩
    · have hc123_65 : ¬ ((1 : Int32) < (0 : Int32)) := (by decide)
      have hc144_66 : ¬ ((1 : Int32) < (0 : Int32)) := (by decide)
      have hc165_67 : ¬ ((1 : Int32) < (0 : Int32)) := (by decide)
      have hc186_68 : ¬ ((1 : Int32) < (0 : Int32)) := (by decide)
      refine own_go (b := T32.setTop (mkF m 202 #[.val (.long p1), .second, .val (.int p2), .val (.int p3), .val (.int p4), .val (.ref a1), .val (.int nt), .val (.int nf), .val (.int (1 : Int32)), .unset] [(.int nt), (.int (2 : Int32))])) (fun t k => ?_) ?_
      · show Steps p.tables e below (T32.setTop (mkF m 115 #[.val (.long p1), .second, .val (.int p2), .val (.int p3), .val (.int p4), .val (.ref a1), .val (.int nt), .val (.int nf), .val (.int (-1 : Int32)), .unset] [(.int (own_mark_0 (fun i => ([v0, v1, v2, v3, v4] : List Int32).getD i 0) (1 : Int32) nf nt))])) _
        refine XS.ifNo X32.here hx rfl (hb hby at_115) rfl ((if0 _ _).trans (feq hc115).1) ?_
        show Steps p.tables e below (T32.setTop (mkF m 118 #[.val (.long p1), .second, .val (.int p2), .val (.int p3), .val (.int p4), .val (.ref a1), .val (.int nt), .val (.int nf), .val (.int (-1 : Int32)), .unset] [])) _
        refine XS.iconst X32.here hx rfl (hb hby at_118) ?_
        show Steps p.tables e below (T32.setTop (mkF m 119 #[.val (.long p1), .second, .val (.int p2), .val (.int p3), .val (.int p4), .val (.ref a1), .val (.int nt), .val (.int nf), .val (.int (-1 : Int32)), .unset] [(.int (1 : Int32))])) _
        refine XS.istore X32.here hx rfl (hb hby at_119) rfl (l' := #[.val (.long p1), .second, .val (.int p2), .val (.int p3), .val (.int p4), .val (.ref a1), .val (.int nt), .val (.int nf), .val (.int (1 : Int32)), .unset]) rfl ?_
        show Steps p.tables e below (T32.setTop (mkF m 121 #[.val (.long p1), .second, .val (.int p2), .val (.int p3), .val (.int p4), .val (.ref a1), .val (.int nt), .val (.int nf), .val (.int (1 : Int32)), .unset] [])) _
        refine XS.iload X32.here hx rfl (hb hby at_121) rfl ?_
        show Steps p.tables e below (T32.setTop (mkF m 123 #[.val (.long p1), .second, .val (.int p2), .val (.int p3), .val (.int p4), .val (.ref a1), .val (.int nt), .val (.int nf), .val (.int (1 : Int32)), .unset] [(.int (1 : Int32))])) _
        refine XS.ifYes X32.here hx rfl (pc0 := 123) (pc' := 142) rfl (hb hby at_123) rfl ((if0 _ _).trans (flt hc123_65).2.1) (by decide) (by decide) ?_
        show Steps p.tables e below (T32.setTop (mkF m 142 #[.val (.long p1), .second, .val (.int p2), .val (.int p3), .val (.int p4), .val (.ref a1), .val (.int nt), .val (.int nf), .val (.int (1 : Int32)), .unset] [])) _
        refine XS.iload X32.here hx rfl (hb hby at_142) rfl ?_
        show Steps p.tables e below (T32.setTop (mkF m 144 #[.val (.long p1), .second, .val (.int p2), .val (.int p3), .val (.int p4), .val (.ref a1), .val (.int nt), .val (.int nf), .val (.int (1 : Int32)), .unset] [(.int (1 : Int32))])) _
        refine XS.ifYes X32.here hx rfl (pc0 := 144) (pc' := 163) rfl (hb hby at_144) rfl ((if0 _ _).trans (flt hc144_66).2.1) (by decide) (by decide) ?_
        show Steps p.tables e below (T32.setTop (mkF m 163 #[.val (.long p1), .second, .val (.int p2), .val (.int p3), .val (.int p4), .val (.ref a1), .val (.int nt), .val (.int nf), .val (.int (1 : Int32)), .unset] [])) _
        refine XS.iload X32.here hx rfl (hb hby at_163) rfl ?_
        show Steps p.tables e below (T32.setTop (mkF m 165 #[.val (.long p1), .second, .val (.int p2), .val (.int p3), .val (.int p4), .val (.ref a1), .val (.int nt), .val (.int nf), .val (.int (1 : Int32)), .unset] [(.int (1 : Int32))])) _
        refine XS.ifYes X32.here hx rfl (pc0 := 165) (pc' := 184) rfl (hb hby at_165) rfl ((if0 _ _).trans (flt hc165_67).2.1) (by decide) (by decide) ?_
        show Steps p.tables e below (T32.setTop (mkF m 184 #[.val (.long p1), .second, .val (.int p2), .val (.int p3), .val (.int p4), .val (.ref a1), .val (.int nt), .val (.int nf), .val (.int (1 : Int32)), .unset] [])) _
        refine XS.iload X32.here hx rfl (hb hby at_184) rfl ?_
        show Steps p.tables e below (T32.setTop (mkF m 186 #[.val (.long p1), .second, .val (.int p2), .val (.int p3), .val (.int p4), .val (.ref a1), .val (.int nt), .val (.int nf), .val (.int (1 : Int32)), .unset] [(.int (1 : Int32))])) _
        refine XS.ifYes X32.here hx rfl (pc0 := 186) (pc' := 196) rfl (hb hby at_186) rfl ((if0 _ _).trans (flt hc186_68).2.1) (by decide) (by decide) ?_
        show Steps p.tables e below (T32.setTop (mkF m 196 #[.val (.long p1), .second, .val (.int p2), .val (.int p3), .val (.int p4), .val (.ref a1), .val (.int nt), .val (.int nf), .val (.int (1 : Int32)), .unset] [])) _
        refine XS.iload X32.here hx rfl (hb hby at_196) rfl ?_
        show Steps p.tables e below (T32.setTop (mkF m 198 #[.val (.long p1), .second, .val (.int p2), .val (.int p3), .val (.int p4), .val (.ref a1), .val (.int nt), .val (.int nf), .val (.int (1 : Int32)), .unset] [(.int (1 : Int32))])) _
        refine XS.iconst X32.here hx rfl (hb hby at_198) ?_
        show Steps p.tables e below (T32.setTop (mkF m 199 #[.val (.long p1), .second, .val (.int p2), .val (.int p3), .val (.int p4), .val (.ref a1), .val (.int nt), .val (.int nf), .val (.int (1 : Int32)), .unset] [(.int (1 : Int32)), (.int (1 : Int32))])) _
        refine XS.iadd X32.here hx rfl (hb hby at_199) rfl ?_
        show Steps p.tables e below (T32.setTop (mkF m 200 #[.val (.long p1), .second, .val (.int p2), .val (.int p3), .val (.int p4), .val (.ref a1), .val (.int nt), .val (.int nf), .val (.int (1 : Int32)), .unset] [(.int (2 : Int32))])) _
        refine XS.iload X32.here hx rfl (hb hby at_200) rfl ?_
        show Steps p.tables e below (T32.setTop (mkF m 202 #[.val (.long p1), .second, .val (.int p2), .val (.int p3), .val (.int p4), .val (.ref a1), .val (.int nt), .val (.int nf), .val (.int (1 : Int32)), .unset] [(.int nt), (.int (2 : Int32))])) _
        exact k
      by_cases hc202 : (2 : Int32) = nt
      · obtain ⟨_, _, ⟨T69, uL69, uk69, un69⟩, -, X69, ⟨Lc69, hQ69, ul69, uy69, uz69⟩, st69⟩ := Jvm.LawKit.callS X32 hx (y := (⟨"com/example/fieldbook/fieldbook/Field", "plainDataEnd", "([BII)I"⟩ : MethodName)) hown (mvT hZ (hw _ (List.mem_of_getElem? (i := 9) rfl))) (mvT hZ (hw _ (List.mem_of_getElem? (i := 10) rfl))) (mvT hZ (hw _ (List.mem_of_getElem? (i := 11) rfl))) (mvT hZ (hw _ (List.mem_of_getElem? (i := 12) rfl))) (by decide) (backOf (W := 0) (rm3 l Z a0 hw [] a1 cl29 (fun i => ([v0, v1, v2, v3, v4] : List Int32).getD i 0) (5 : Int32) nf nt h25 n0 Z25 Ar29 S29 M29 (own_has (xs := ([v0, v1, v2, v3, v4] : List Int32)) H29 S29) q2.1 q2.2 q3) hZ (hw _ (List.mem_of_getElem? (i := 12) rfl)) (hw _ (List.mem_of_getElem? (i := 11) rfl)) (by decide) (by decide)) (g := (mkF m 240 #[.val (.long p1), .second, .val (.int p2), .val (.int p3), .val (.int p4), .val (.ref a1), .val (.int nt), .val (.int nf), .val (.int (1 : Int32)), .val (.int (1 : Int32))] [(.int nt), (.int nf), (.ref a1)])) rfl (by rw [hml]; rfl) (argsL := [(.ref a1), (.int nf), (.int nt)]) (rest := []) (lenOf pd__28_5bBII_29I rfl) rfl (by show 2 * 0 + _ ≤ _; exact Nat.le_of_eq rfl) (hb hby at_240) (fun _ _ => ⟨rfl, e32, (by decide : 1 + 0 ≤ _), (by decide : 5 + 0 ≤ _)⟩)
        dsimp only [Pt.U, Pt.locs, Pt.cells, Pt.slots] at X69 ul69 uy69 uz69 st69 hQ69
        subst ul69 uy69 uz69
        obtain ⟨rfl, Nq69, e69⟩ := hQ69
        have N69 := Fr.app N32 Nq69
        have hc245_70 : (own_pde_0 (fun i => ([v0, v1, v2, v3, v4] : List Int32).getD i 0) nf nt) = (1 : Int32) := by rw [own_fin _ _ _ q2.1 q2.2 q1.2, own_exp, if_pos hc94, if_neg hc115, own_e, if_pos hc202]
        refine own_end X69 Bd.notSynchronized (v := some (.int (1 : Int32))) (fun h => by rw [Bd.returns] at h; cases h) (fun fs hr => ?_) e69 ?_ (by decide) (by decide)
        · show Steps p.tables e below (T32.setTop (mkF m 202 #[.val (.long p1), .second, .val (.int p2), .val (.int p3), .val (.int p4), .val (.ref a1), .val (.int nt), .val (.int nf), .val (.int (1 : Int32)), .unset] [(.int nt), (.int (2 : Int32))])) _
          refine XS.icmpNo X32.here hx rfl (hb hby at_202) rfl (teq hc202).2 ?_
          show Steps p.tables e below (T32.setTop (mkF m 205 #[.val (.long p1), .second, .val (.int p2), .val (.int p3), .val (.int p4), .val (.ref a1), .val (.int nt), .val (.int nf), .val (.int (1 : Int32)), .unset] [])) _
          refine XS.iload X32.here hx rfl (hb hby at_205) rfl ?_
          show Steps p.tables e below (T32.setTop (mkF m 207 #[.val (.long p1), .second, .val (.int p2), .val (.int p3), .val (.int p4), .val (.ref a1), .val (.int nt), .val (.int nf), .val (.int (1 : Int32)), .unset] [(.int (1 : Int32))])) _
          refine XS.istore X32.here hx rfl (hb hby at_207) rfl (l' := #[.val (.long p1), .second, .val (.int p2), .val (.int p3), .val (.int p4), .val (.ref a1), .val (.int nt), .val (.int nf), .val (.int (1 : Int32)), .val (.int (1 : Int32))]) rfl ?_
          show Steps p.tables e below (T32.setTop (mkF m 209 #[.val (.long p1), .second, .val (.int p2), .val (.int p3), .val (.int p4), .val (.ref a1), .val (.int nt), .val (.int nf), .val (.int (1 : Int32)), .val (.int (1 : Int32))] [])) _
          refine XS.goto X32.here hx rfl (pc0 := 209) (pc' := 234) rfl (hb hby at_209) (by decide) (by decide) ?_
          show Steps p.tables e below (T32.setTop (mkF m 234 #[.val (.long p1), .second, .val (.int p2), .val (.int p3), .val (.int p4), .val (.ref a1), .val (.int nt), .val (.int nf), .val (.int (1 : Int32)), .val (.int (1 : Int32))] [])) _
          refine XS.aload X32.here hx rfl (hb hby at_234) rfl rfl ?_
          show Steps p.tables e below (T32.setTop (mkF m 236 #[.val (.long p1), .second, .val (.int p2), .val (.int p3), .val (.int p4), .val (.ref a1), .val (.int nt), .val (.int nf), .val (.int (1 : Int32)), .val (.int (1 : Int32))] [(.ref a1)])) _
          refine XS.iload X32.here hx rfl (hb hby at_236) rfl ?_
          show Steps p.tables e below (T32.setTop (mkF m 238 #[.val (.long p1), .second, .val (.int p2), .val (.int p3), .val (.int p4), .val (.ref a1), .val (.int nt), .val (.int nf), .val (.int (1 : Int32)), .val (.int (1 : Int32))] [(.int nf), (.ref a1)])) _
          refine XS.iload X32.here hx rfl (hb hby at_238) rfl ?_
          show Steps p.tables e below (T32.setTop (mkF m 240 #[.val (.long p1), .second, .val (.int p2), .val (.int p3), .val (.int p4), .val (.ref a1), .val (.int nt), .val (.int nf), .val (.int (1 : Int32)), .val (.int (1 : Int32))] [(.int nt), (.int nf), (.ref a1)])) _
          refine st69 _ ?_
          show Steps p.tables e below (T69.setTop (mkF m 243 #[.val (.long p1), .second, .val (.int p2), .val (.int p3), .val (.int p4), .val (.ref a1), .val (.int nt), .val (.int nf), .val (.int (1 : Int32)), .val (.int (1 : Int32))] [(.int (own_pde_0 (fun i => ([v0, v1, v2, v3, v4] : List Int32).getD i 0) nf nt))])) _
          refine XS.iload X69.here hx rfl (hb hby at_243) rfl ?_
          show Steps p.tables e below (T69.setTop (mkF m 245 #[.val (.long p1), .second, .val (.int p2), .val (.int p3), .val (.int p4), .val (.ref a1), .val (.int nt), .val (.int nf), .val (.int (1 : Int32)), .val (.int (1 : Int32))] [(.int (1 : Int32)), (.int (own_pde_0 (fun i => ([v0, v1, v2, v3, v4] : List Int32).getD i 0) nf nt))])) _
          refine XS.icmpNo X69.here hx rfl (hb hby at_245) rfl (teq hc245_70).2 ?_
          show Steps p.tables e below (T69.setTop (mkF m 248 #[.val (.long p1), .second, .val (.int p2), .val (.int p3), .val (.int p4), .val (.ref a1), .val (.int nt), .val (.int nf), .val (.int (1 : Int32)), .val (.int (1 : Int32))] [])) _
          refine XS.iconst X69.here hx rfl (hb hby at_248) ?_
          show Steps p.tables e below (T69.setTop (mkF m 249 #[.val (.long p1), .second, .val (.int p2), .val (.int p3), .val (.int p4), .val (.ref a1), .val (.int nt), .val (.int nf), .val (.int (1 : Int32)), .val (.int (1 : Int32))] [(.int (1 : Int32))])) _
          refine XS.goto X69.here hx rfl (pc0 := 249) (pc' := 253) rfl (hb hby at_249) (by decide) (by decide) ?_
          show Steps p.tables e below (T69.setTop (mkF m 253 #[.val (.long p1), .second, .val (.int p2), .val (.int p3), .val (.int p4), .val (.ref a1), .val (.int nt), .val (.int nf), .val (.int (1 : Int32)), .val (.int (1 : Int32))] [(.int (1 : Int32))])) _
          exact retN X69 hx (t := .boolean) Bd.returns (by simp) (hb hby at_253) hr
        · exact ⟨rfl, N69⟩
      · have hi71 : ¬ (2 : Int32) < 0 ∧ (2 : Int32).toNatClampNeg < (5 : Int32).toNatClampNeg := by decide
        have ha71 : cl29.slots[(2 : Int32).toNatClampNeg]? = some (.int v2) := H29 _ (by rw [S29]; exact hi71.2)
        refine own_go (b := T32.setTop (mkF m 221 #[.val (.long p1), .second, .val (.int p2), .val (.int p3), .val (.int p4), .val (.ref a1), .val (.int nt), .val (.int nf), .val (.int (1 : Int32)), .unset] [(.int (94 : Int32)), (.int v2)])) (fun t k => ?_) ?_
        · show Steps p.tables e below (T32.setTop (mkF m 202 #[.val (.long p1), .second, .val (.int p2), .val (.int p3), .val (.int p4), .val (.ref a1), .val (.int nt), .val (.int nf), .val (.int (1 : Int32)), .unset] [(.int nt), (.int (2 : Int32))])) _
          refine XS.icmpYes X32.here hx rfl (pc0 := 202) (pc' := 212) rfl (hb hby at_202) rfl (feq hc202).2 (by decide) (by decide) ?_
          show Steps p.tables e below (T32.setTop (mkF m 212 #[.val (.long p1), .second, .val (.int p2), .val (.int p3), .val (.int p4), .val (.ref a1), .val (.int nt), .val (.int nf), .val (.int (1 : Int32)), .unset] [])) _
          refine XS.aload X32.here hx rfl (hb hby at_212) rfl rfl ?_
          show Steps p.tables e below (T32.setTop (mkF m 214 #[.val (.long p1), .second, .val (.int p2), .val (.int p3), .val (.int p4), .val (.ref a1), .val (.int nt), .val (.int nf), .val (.int (1 : Int32)), .unset] [(.ref a1)])) _
          refine XS.iload X32.here hx rfl (hb hby at_214) rfl ?_
          show Steps p.tables e below (T32.setTop (mkF m 216 #[.val (.long p1), .second, .val (.int p2), .val (.int p3), .val (.int p4), .val (.ref a1), .val (.int nt), .val (.int nf), .val (.int (1 : Int32)), .unset] [(.int (1 : Int32)), (.ref a1)])) _
          refine XS.iconst X32.here hx rfl (hb hby at_216) ?_
          show Steps p.tables e below (T32.setTop (mkF m 217 #[.val (.long p1), .second, .val (.int p2), .val (.int p3), .val (.int p4), .val (.ref a1), .val (.int nt), .val (.int nf), .val (.int (1 : Int32)), .unset] [(.int (1 : Int32)), (.int (1 : Int32)), (.ref a1)])) _
          refine XS.iadd X32.here hx rfl (hb hby at_217) rfl ?_
          show Steps p.tables e below (T32.setTop (mkF m 218 #[.val (.long p1), .second, .val (.int p2), .val (.int p3), .val (.int p4), .val (.ref a1), .val (.int nt), .val (.int nf), .val (.int (1 : Int32)), .unset] [(.int (2 : Int32)), (.ref a1)])) _
          refine X32.baloadBytes hx (j := (2 : Int32)) (v := (.int v2)) (by rw [e32]; exact Ar29.1) (State.isArrayOf_alike hZ.alike Ar29.2.1) Ar29.2.2 (own_hin S29 hi71) ha71 (g := (mkF m 218 #[.val (.long p1), .second, .val (.int p2), .val (.int p3), .val (.int p4), .val (.ref a1), .val (.int nt), .val (.int nf), .val (.int (1 : Int32)), .unset] [(.int (2 : Int32)), (.ref a1)])) rfl rfl (hb hby at_218) _ ?_
          show Steps p.tables e below (T32.setTop (mkF m 219 #[.val (.long p1), .second, .val (.int p2), .val (.int p3), .val (.int p4), .val (.ref a1), .val (.int nt), .val (.int nf), .val (.int (1 : Int32)), .unset] [(.int v2)])) _
          refine XS.bipush X32.here hx rfl (hb hby at_219) ?_
          show Steps p.tables e below (T32.setTop (mkF m 221 #[.val (.long p1), .second, .val (.int p2), .val (.int p3), .val (.int p4), .val (.ref a1), .val (.int nt), .val (.int nf), .val (.int (1 : Int32)), .unset] [(.int (94 : Int32)), (.int v2)])) _
          exact k
        by_cases hc221 : v2 = (94 : Int32)
        · obtain ⟨_, _, ⟨T72, uL72, uk72, un72⟩, -, X72, ⟨Lc72, hQ72, ul72, uy72, uz72⟩, st72⟩ := Jvm.LawKit.callS X32 hx (y := (⟨"com/example/fieldbook/fieldbook/Field", "plainDataEnd", "([BII)I"⟩ : MethodName)) hown (mvT hZ (hw _ (List.mem_of_getElem? (i := 9) rfl))) (mvT hZ (hw _ (List.mem_of_getElem? (i := 10) rfl))) (mvT hZ (hw _ (List.mem_of_getElem? (i := 11) rfl))) (mvT hZ (hw _ (List.mem_of_getElem? (i := 12) rfl))) (by decide) (backOf (W := 0) (rm3 l Z a0 hw [] a1 cl29 (fun i => ([v0, v1, v2, v3, v4] : List Int32).getD i 0) (5 : Int32) nf nt h25 n0 Z25 Ar29 S29 M29 (own_has (xs := ([v0, v1, v2, v3, v4] : List Int32)) H29 S29) q2.1 q2.2 q3) hZ (hw _ (List.mem_of_getElem? (i := 12) rfl)) (hw _ (List.mem_of_getElem? (i := 11) rfl)) (by decide) (by decide)) (g := (mkF m 240 #[.val (.long p1), .second, .val (.int p2), .val (.int p3), .val (.int p4), .val (.ref a1), .val (.int nt), .val (.int nf), .val (.int (1 : Int32)), .val (.int (-1 : Int32))] [(.int nt), (.int nf), (.ref a1)])) rfl (by rw [hml]; rfl) (argsL := [(.ref a1), (.int nf), (.int nt)]) (rest := []) (lenOf pd__28_5bBII_29I rfl) rfl (by show 2 * 0 + _ ≤ _; exact Nat.le_of_eq rfl) (hb hby at_240) (fun _ _ => ⟨rfl, e32, (by decide : 1 + 0 ≤ _), (by decide : 5 + 0 ≤ _)⟩)
          dsimp only [Pt.U, Pt.locs, Pt.cells, Pt.slots] at X72 ul72 uy72 uz72 st72 hQ72
          subst ul72 uy72 uz72
          obtain ⟨rfl, Nq72, e72⟩ := hQ72
          have N72 := Fr.app N32 Nq72
          have hc245_73 : (own_pde_0 (fun i => ([v0, v1, v2, v3, v4] : List Int32).getD i 0) nf nt) = (-1 : Int32) := by rw [own_fin _ _ _ q2.1 q2.2 q1.2, own_exp, if_pos hc94, if_neg hc115, own_e, if_neg hc202]; exact if_pos hc221
          refine own_end X72 Bd.notSynchronized (v := some (.int (1 : Int32))) (fun h => by rw [Bd.returns] at h; cases h) (fun fs hr => ?_) e72 ?_ (by decide) (by decide)
          · show Steps p.tables e below (T32.setTop (mkF m 221 #[.val (.long p1), .second, .val (.int p2), .val (.int p3), .val (.int p4), .val (.ref a1), .val (.int nt), .val (.int nf), .val (.int (1 : Int32)), .unset] [(.int (94 : Int32)), (.int v2)])) _
            refine XS.icmpYes X32.here hx rfl (pc0 := 221) (pc' := 231) rfl (hb hby at_221) rfl (teq hc221).1 (by decide) (by decide) ?_
            show Steps p.tables e below (T32.setTop (mkF m 231 #[.val (.long p1), .second, .val (.int p2), .val (.int p3), .val (.int p4), .val (.ref a1), .val (.int nt), .val (.int nf), .val (.int (1 : Int32)), .unset] [])) _
            refine XS.iconst X32.here hx rfl (hb hby at_231) ?_
            show Steps p.tables e below (T32.setTop (mkF m 232 #[.val (.long p1), .second, .val (.int p2), .val (.int p3), .val (.int p4), .val (.ref a1), .val (.int nt), .val (.int nf), .val (.int (1 : Int32)), .unset] [(.int (-1 : Int32))])) _
            refine XS.istore X32.here hx rfl (hb hby at_232) rfl (l' := #[.val (.long p1), .second, .val (.int p2), .val (.int p3), .val (.int p4), .val (.ref a1), .val (.int nt), .val (.int nf), .val (.int (1 : Int32)), .val (.int (-1 : Int32))]) rfl ?_
            show Steps p.tables e below (T32.setTop (mkF m 234 #[.val (.long p1), .second, .val (.int p2), .val (.int p3), .val (.int p4), .val (.ref a1), .val (.int nt), .val (.int nf), .val (.int (1 : Int32)), .val (.int (-1 : Int32))] [])) _
            refine XS.aload X32.here hx rfl (hb hby at_234) rfl rfl ?_
            show Steps p.tables e below (T32.setTop (mkF m 236 #[.val (.long p1), .second, .val (.int p2), .val (.int p3), .val (.int p4), .val (.ref a1), .val (.int nt), .val (.int nf), .val (.int (1 : Int32)), .val (.int (-1 : Int32))] [(.ref a1)])) _
            refine XS.iload X32.here hx rfl (hb hby at_236) rfl ?_
            show Steps p.tables e below (T32.setTop (mkF m 238 #[.val (.long p1), .second, .val (.int p2), .val (.int p3), .val (.int p4), .val (.ref a1), .val (.int nt), .val (.int nf), .val (.int (1 : Int32)), .val (.int (-1 : Int32))] [(.int nf), (.ref a1)])) _
            refine XS.iload X32.here hx rfl (hb hby at_238) rfl ?_
            show Steps p.tables e below (T32.setTop (mkF m 240 #[.val (.long p1), .second, .val (.int p2), .val (.int p3), .val (.int p4), .val (.ref a1), .val (.int nt), .val (.int nf), .val (.int (1 : Int32)), .val (.int (-1 : Int32))] [(.int nt), (.int nf), (.ref a1)])) _
            refine st72 _ ?_
            show Steps p.tables e below (T72.setTop (mkF m 243 #[.val (.long p1), .second, .val (.int p2), .val (.int p3), .val (.int p4), .val (.ref a1), .val (.int nt), .val (.int nf), .val (.int (1 : Int32)), .val (.int (-1 : Int32))] [(.int (own_pde_0 (fun i => ([v0, v1, v2, v3, v4] : List Int32).getD i 0) nf nt))])) _
            refine XS.iload X72.here hx rfl (hb hby at_243) rfl ?_
            show Steps p.tables e below (T72.setTop (mkF m 245 #[.val (.long p1), .second, .val (.int p2), .val (.int p3), .val (.int p4), .val (.ref a1), .val (.int nt), .val (.int nf), .val (.int (1 : Int32)), .val (.int (-1 : Int32))] [(.int (-1 : Int32)), (.int (own_pde_0 (fun i => ([v0, v1, v2, v3, v4] : List Int32).getD i 0) nf nt))])) _
            refine XS.icmpNo X72.here hx rfl (hb hby at_245) rfl (teq hc245_73).2 ?_
            show Steps p.tables e below (T72.setTop (mkF m 248 #[.val (.long p1), .second, .val (.int p2), .val (.int p3), .val (.int p4), .val (.ref a1), .val (.int nt), .val (.int nf), .val (.int (1 : Int32)), .val (.int (-1 : Int32))] [])) _
            refine XS.iconst X72.here hx rfl (hb hby at_248) ?_
            show Steps p.tables e below (T72.setTop (mkF m 249 #[.val (.long p1), .second, .val (.int p2), .val (.int p3), .val (.int p4), .val (.ref a1), .val (.int nt), .val (.int nf), .val (.int (1 : Int32)), .val (.int (-1 : Int32))] [(.int (1 : Int32))])) _
            refine XS.goto X72.here hx rfl (pc0 := 249) (pc' := 253) rfl (hb hby at_249) (by decide) (by decide) ?_
            show Steps p.tables e below (T72.setTop (mkF m 253 #[.val (.long p1), .second, .val (.int p2), .val (.int p3), .val (.int p4), .val (.ref a1), .val (.int nt), .val (.int nf), .val (.int (1 : Int32)), .val (.int (-1 : Int32))] [(.int (1 : Int32))])) _
            exact retN X72 hx (t := .boolean) Bd.returns (by simp) (hb hby at_253) hr
          · exact ⟨rfl, N72⟩
        · obtain ⟨_, _, ⟨T74, uL74, uk74, un74⟩, -, X74, ⟨Lc74, hQ74, ul74, uy74, uz74⟩, st74⟩ := Jvm.LawKit.callS X32 hx (y := (⟨"com/example/fieldbook/fieldbook/Field", "plainDataEnd", "([BII)I"⟩ : MethodName)) hown (mvT hZ (hw _ (List.mem_of_getElem? (i := 9) rfl))) (mvT hZ (hw _ (List.mem_of_getElem? (i := 10) rfl))) (mvT hZ (hw _ (List.mem_of_getElem? (i := 11) rfl))) (mvT hZ (hw _ (List.mem_of_getElem? (i := 12) rfl))) (by decide) (backOf (W := 0) (rm3 l Z a0 hw [] a1 cl29 (fun i => ([v0, v1, v2, v3, v4] : List Int32).getD i 0) (5 : Int32) nf nt h25 n0 Z25 Ar29 S29 M29 (own_has (xs := ([v0, v1, v2, v3, v4] : List Int32)) H29 S29) q2.1 q2.2 q3) hZ (hw _ (List.mem_of_getElem? (i := 12) rfl)) (hw _ (List.mem_of_getElem? (i := 11) rfl)) (by decide) (by decide)) (g := (mkF m 240 #[.val (.long p1), .second, .val (.int p2), .val (.int p3), .val (.int p4), .val (.ref a1), .val (.int nt), .val (.int nf), .val (.int (1 : Int32)), .val (.int (1 : Int32))] [(.int nt), (.int nf), (.ref a1)])) rfl (by rw [hml]; rfl) (argsL := [(.ref a1), (.int nf), (.int nt)]) (rest := []) (lenOf pd__28_5bBII_29I rfl) rfl (by show 2 * 0 + _ ≤ _; exact Nat.le_of_eq rfl) (hb hby at_240) (fun _ _ => ⟨rfl, e32, (by decide : 1 + 0 ≤ _), (by decide : 5 + 0 ≤ _)⟩)
          dsimp only [Pt.U, Pt.locs, Pt.cells, Pt.slots] at X74 ul74 uy74 uz74 st74 hQ74
          subst ul74 uy74 uz74
          obtain ⟨rfl, Nq74, e74⟩ := hQ74
          have N74 := Fr.app N32 Nq74
          have hc245_75 : (own_pde_0 (fun i => ([v0, v1, v2, v3, v4] : List Int32).getD i 0) nf nt) = (1 : Int32) := by rw [own_fin _ _ _ q2.1 q2.2 q1.2, own_exp, if_pos hc94, if_neg hc115, own_e, if_neg hc202]; exact if_neg hc221
          refine own_end X74 Bd.notSynchronized (v := some (.int (1 : Int32))) (fun h => by rw [Bd.returns] at h; cases h) (fun fs hr => ?_) e74 ?_ (by decide) (by decide)
          · show Steps p.tables e below (T32.setTop (mkF m 221 #[.val (.long p1), .second, .val (.int p2), .val (.int p3), .val (.int p4), .val (.ref a1), .val (.int nt), .val (.int nf), .val (.int (1 : Int32)), .unset] [(.int (94 : Int32)), (.int v2)])) _
            refine XS.icmpNo X32.here hx rfl (hb hby at_221) rfl (feq hc221).1 ?_
            show Steps p.tables e below (T32.setTop (mkF m 224 #[.val (.long p1), .second, .val (.int p2), .val (.int p3), .val (.int p4), .val (.ref a1), .val (.int nt), .val (.int nf), .val (.int (1 : Int32)), .unset] [])) _
            refine XS.iload X32.here hx rfl (hb hby at_224) rfl ?_
            show Steps p.tables e below (T32.setTop (mkF m 226 #[.val (.long p1), .second, .val (.int p2), .val (.int p3), .val (.int p4), .val (.ref a1), .val (.int nt), .val (.int nf), .val (.int (1 : Int32)), .unset] [(.int (1 : Int32))])) _
            refine XS.istore X32.here hx rfl (hb hby at_226) rfl (l' := #[.val (.long p1), .second, .val (.int p2), .val (.int p3), .val (.int p4), .val (.ref a1), .val (.int nt), .val (.int nf), .val (.int (1 : Int32)), .val (.int (1 : Int32))]) rfl ?_
            show Steps p.tables e below (T32.setTop (mkF m 228 #[.val (.long p1), .second, .val (.int p2), .val (.int p3), .val (.int p4), .val (.ref a1), .val (.int nt), .val (.int nf), .val (.int (1 : Int32)), .val (.int (1 : Int32))] [])) _
            refine XS.goto X32.here hx rfl (pc0 := 228) (pc' := 234) rfl (hb hby at_228) (by decide) (by decide) ?_
            show Steps p.tables e below (T32.setTop (mkF m 234 #[.val (.long p1), .second, .val (.int p2), .val (.int p3), .val (.int p4), .val (.ref a1), .val (.int nt), .val (.int nf), .val (.int (1 : Int32)), .val (.int (1 : Int32))] [])) _
            refine XS.aload X32.here hx rfl (hb hby at_234) rfl rfl ?_
            show Steps p.tables e below (T32.setTop (mkF m 236 #[.val (.long p1), .second, .val (.int p2), .val (.int p3), .val (.int p4), .val (.ref a1), .val (.int nt), .val (.int nf), .val (.int (1 : Int32)), .val (.int (1 : Int32))] [(.ref a1)])) _
            refine XS.iload X32.here hx rfl (hb hby at_236) rfl ?_
            show Steps p.tables e below (T32.setTop (mkF m 238 #[.val (.long p1), .second, .val (.int p2), .val (.int p3), .val (.int p4), .val (.ref a1), .val (.int nt), .val (.int nf), .val (.int (1 : Int32)), .val (.int (1 : Int32))] [(.int nf), (.ref a1)])) _
            refine XS.iload X32.here hx rfl (hb hby at_238) rfl ?_
            show Steps p.tables e below (T32.setTop (mkF m 240 #[.val (.long p1), .second, .val (.int p2), .val (.int p3), .val (.int p4), .val (.ref a1), .val (.int nt), .val (.int nf), .val (.int (1 : Int32)), .val (.int (1 : Int32))] [(.int nt), (.int nf), (.ref a1)])) _
            refine st74 _ ?_
            show Steps p.tables e below (T74.setTop (mkF m 243 #[.val (.long p1), .second, .val (.int p2), .val (.int p3), .val (.int p4), .val (.ref a1), .val (.int nt), .val (.int nf), .val (.int (1 : Int32)), .val (.int (1 : Int32))] [(.int (own_pde_0 (fun i => ([v0, v1, v2, v3, v4] : List Int32).getD i 0) nf nt))])) _
            refine XS.iload X74.here hx rfl (hb hby at_243) rfl ?_
            show Steps p.tables e below (T74.setTop (mkF m 245 #[.val (.long p1), .second, .val (.int p2), .val (.int p3), .val (.int p4), .val (.ref a1), .val (.int nt), .val (.int nf), .val (.int (1 : Int32)), .val (.int (1 : Int32))] [(.int (1 : Int32)), (.int (own_pde_0 (fun i => ([v0, v1, v2, v3, v4] : List Int32).getD i 0) nf nt))])) _
            refine XS.icmpNo X74.here hx rfl (hb hby at_245) rfl (teq hc245_75).2 ?_
            show Steps p.tables e below (T74.setTop (mkF m 248 #[.val (.long p1), .second, .val (.int p2), .val (.int p3), .val (.int p4), .val (.ref a1), .val (.int nt), .val (.int nf), .val (.int (1 : Int32)), .val (.int (1 : Int32))] [])) _
            refine XS.iconst X74.here hx rfl (hb hby at_248) ?_
            show Steps p.tables e below (T74.setTop (mkF m 249 #[.val (.long p1), .second, .val (.int p2), .val (.int p3), .val (.int p4), .val (.ref a1), .val (.int nt), .val (.int nf), .val (.int (1 : Int32)), .val (.int (1 : Int32))] [(.int (1 : Int32))])) _
            refine XS.goto X74.here hx rfl (pc0 := 249) (pc' := 253) rfl (hb hby at_249) (by decide) (by decide) ?_
            show Steps p.tables e below (T74.setTop (mkF m 253 #[.val (.long p1), .second, .val (.int p2), .val (.int p3), .val (.int p4), .val (.ref a1), .val (.int nt), .val (.int nf), .val (.int (1 : Int32)), .val (.int (1 : Int32))] [(.int (1 : Int32))])) _
            exact retN X74 hx (t := .boolean) Bd.returns (by simp) (hb hby at_253) hr
          · exact ⟨rfl, N74⟩
  · have hc102_76 : ¬ ((0 : Int32) < (0 : Int32)) := (by decide)
    have hc123_77 : ¬ ((0 : Int32) < (0 : Int32)) := (by decide)
    have hc144_78 : ¬ ((0 : Int32) < (0 : Int32)) := (by decide)
    have hc165_79 : ¬ ((0 : Int32) < (0 : Int32)) := (by decide)
    have hc186_80 : ¬ ((0 : Int32) < (0 : Int32)) := (by decide)
    refine own_go (b := T30.setTop (mkF m 202 #[.val (.long p1), .second, .val (.int p2), .val (.int p3), .val (.int p4), .val (.ref a1), .val (.int nt), .val (.int nf), .val (.int (0 : Int32)), .unset] [(.int nt), (.int (1 : Int32))])) (fun t k => ?_) ?_
    · show Steps p.tables e below (T30.setTop (mkF m 94 #[.val (.long p1), .second, .val (.int p2), .val (.int p3), .val (.int p4), .val (.ref a1), .val (.int nt), .val (.int nf), .val (.int (-1 : Int32)), .unset] [(.int (own_mark_0 (fun i => ([v0, v1, v2, v3, v4] : List Int32).getD i 0) (0 : Int32) nf nt))])) _
      refine XS.ifNo X30.here hx rfl (hb hby at_94) rfl ((if0 _ _).trans (feq hc94).1) ?_
      show Steps p.tables e below (T30.setTop (mkF m 97 #[.val (.long p1), .second, .val (.int p2), .val (.int p3), .val (.int p4), .val (.ref a1), .val (.int nt), .val (.int nf), .val (.int (-1 : Int32)), .unset] [])) _
      refine XS.iconst X30.here hx rfl (hb hby at_97) ?_
      show Steps p.tables e below (T30.setTop (mkF m 98 #[.val (.long p1), .second, .val (.int p2), .val (.int p3), .val (.int p4), .val (.ref a1), .val (.int nt), .val (.int nf), .val (.int (-1 : Int32)), .unset] [(.int (0 : Int32))])) _
      refine XS.istore X30.here hx rfl (hb hby at_98) rfl (l' := #[.val (.long p1), .second, .val (.int p2), .val (.int p3), .val (.int p4), .val (.ref a1), .val (.int nt), .val (.int nf), .val (.int (0 : Int32)), .unset]) rfl ?_
      show Steps p.tables e below (T30.setTop (mkF m 100 #[.val (.long p1), .second, .val (.int p2), .val (.int p3), .val (.int p4), .val (.ref a1), .val (.int nt), .val (.int nf), .val (.int (0 : Int32)), .unset] [])) _
      refine XS.iload X30.here hx rfl (hb hby at_100) rfl ?_
      show Steps p.tables e below (T30.setTop (mkF m 102 #[.val (.long p1), .second, .val (.int p2), .val (.int p3), .val (.int p4), .val (.ref a1), .val (.int nt), .val (.int nf), .val (.int (0 : Int32)), .unset] [(.int (0 : Int32))])) _
      refine XS.ifYes X30.here hx rfl (pc0 := 102) (pc' := 121) rfl (hb hby at_102) rfl ((if0 _ _).trans (flt hc102_76).2.1) (by decide) (by decide) ?_
      show Steps p.tables e below (T30.setTop (mkF m 121 #[.val (.long p1), .second, .val (.int p2), .val (.int p3), .val (.int p4), .val (.ref a1), .val (.int nt), .val (.int nf), .val (.int (0 : Int32)), .unset] [])) _
      refine XS.iload X30.here hx rfl (hb hby at_121) rfl ?_
      show Steps p.tables e below (T30.setTop (mkF m 123 #[.val (.long p1), .second, .val (.int p2), .val (.int p3), .val (.int p4), .val (.ref a1), .val (.int nt), .val (.int nf), .val (.int (0 : Int32)), .unset] [(.int (0 : Int32))])) _
      refine XS.ifYes X30.here hx rfl (pc0 := 123) (pc' := 142) rfl (hb hby at_123) rfl ((if0 _ _).trans (flt hc123_77).2.1) (by decide) (by decide) ?_
      show Steps p.tables e below (T30.setTop (mkF m 142 #[.val (.long p1), .second, .val (.int p2), .val (.int p3), .val (.int p4), .val (.ref a1), .val (.int nt), .val (.int nf), .val (.int (0 : Int32)), .unset] [])) _
      refine XS.iload X30.here hx rfl (hb hby at_142) rfl ?_
      show Steps p.tables e below (T30.setTop (mkF m 144 #[.val (.long p1), .second, .val (.int p2), .val (.int p3), .val (.int p4), .val (.ref a1), .val (.int nt), .val (.int nf), .val (.int (0 : Int32)), .unset] [(.int (0 : Int32))])) _
      refine XS.ifYes X30.here hx rfl (pc0 := 144) (pc' := 163) rfl (hb hby at_144) rfl ((if0 _ _).trans (flt hc144_78).2.1) (by decide) (by decide) ?_
      show Steps p.tables e below (T30.setTop (mkF m 163 #[.val (.long p1), .second, .val (.int p2), .val (.int p3), .val (.int p4), .val (.ref a1), .val (.int nt), .val (.int nf), .val (.int (0 : Int32)), .unset] [])) _
      refine XS.iload X30.here hx rfl (hb hby at_163) rfl ?_
      show Steps p.tables e below (T30.setTop (mkF m 165 #[.val (.long p1), .second, .val (.int p2), .val (.int p3), .val (.int p4), .val (.ref a1), .val (.int nt), .val (.int nf), .val (.int (0 : Int32)), .unset] [(.int (0 : Int32))])) _
      refine XS.ifYes X30.here hx rfl (pc0 := 165) (pc' := 184) rfl (hb hby at_165) rfl ((if0 _ _).trans (flt hc165_79).2.1) (by decide) (by decide) ?_
      show Steps p.tables e below (T30.setTop (mkF m 184 #[.val (.long p1), .second, .val (.int p2), .val (.int p3), .val (.int p4), .val (.ref a1), .val (.int nt), .val (.int nf), .val (.int (0 : Int32)), .unset] [])) _
      refine XS.iload X30.here hx rfl (hb hby at_184) rfl ?_
      show Steps p.tables e below (T30.setTop (mkF m 186 #[.val (.long p1), .second, .val (.int p2), .val (.int p3), .val (.int p4), .val (.ref a1), .val (.int nt), .val (.int nf), .val (.int (0 : Int32)), .unset] [(.int (0 : Int32))])) _
      refine XS.ifYes X30.here hx rfl (pc0 := 186) (pc' := 196) rfl (hb hby at_186) rfl ((if0 _ _).trans (flt hc186_80).2.1) (by decide) (by decide) ?_
      show Steps p.tables e below (T30.setTop (mkF m 196 #[.val (.long p1), .second, .val (.int p2), .val (.int p3), .val (.int p4), .val (.ref a1), .val (.int nt), .val (.int nf), .val (.int (0 : Int32)), .unset] [])) _
      refine XS.iload X30.here hx rfl (hb hby at_196) rfl ?_
      show Steps p.tables e below (T30.setTop (mkF m 198 #[.val (.long p1), .second, .val (.int p2), .val (.int p3), .val (.int p4), .val (.ref a1), .val (.int nt), .val (.int nf), .val (.int (0 : Int32)), .unset] [(.int (0 : Int32))])) _
      refine XS.iconst X30.here hx rfl (hb hby at_198) ?_
      show Steps p.tables e below (T30.setTop (mkF m 199 #[.val (.long p1), .second, .val (.int p2), .val (.int p3), .val (.int p4), .val (.ref a1), .val (.int nt), .val (.int nf), .val (.int (0 : Int32)), .unset] [(.int (1 : Int32)), (.int (0 : Int32))])) _
      refine XS.iadd X30.here hx rfl (hb hby at_199) rfl ?_
      show Steps p.tables e below (T30.setTop (mkF m 200 #[.val (.long p1), .second, .val (.int p2), .val (.int p3), .val (.int p4), .val (.ref a1), .val (.int nt), .val (.int nf), .val (.int (0 : Int32)), .unset] [(.int (1 : Int32))])) _
      refine XS.iload X30.here hx rfl (hb hby at_200) rfl ?_
      show Steps p.tables e below (T30.setTop (mkF m 202 #[.val (.long p1), .second, .val (.int p2), .val (.int p3), .val (.int p4), .val (.ref a1), .val (.int nt), .val (.int nf), .val (.int (0 : Int32)), .unset] [(.int nt), (.int (1 : Int32))])) _
      exact k
    by_cases hc202 : (1 : Int32) = nt
    · obtain ⟨_, _, ⟨T81, uL81, uk81, un81⟩, -, X81, ⟨Lc81, hQ81, ul81, uy81, uz81⟩, st81⟩ := Jvm.LawKit.callS X30 hx (y := (⟨"com/example/fieldbook/fieldbook/Field", "plainDataEnd", "([BII)I"⟩ : MethodName)) hown (mvT hZ (hw _ (List.mem_of_getElem? (i := 9) rfl))) (mvT hZ (hw _ (List.mem_of_getElem? (i := 10) rfl))) (mvT hZ (hw _ (List.mem_of_getElem? (i := 11) rfl))) (mvT hZ (hw _ (List.mem_of_getElem? (i := 12) rfl))) (by decide) (backOf (W := 0) (rm3 l Z a0 hw [] a1 cl29 (fun i => ([v0, v1, v2, v3, v4] : List Int32).getD i 0) (5 : Int32) nf nt h25 n0 Z25 Ar29 S29 M29 (own_has (xs := ([v0, v1, v2, v3, v4] : List Int32)) H29 S29) q2.1 q2.2 q3) hZ (hw _ (List.mem_of_getElem? (i := 12) rfl)) (hw _ (List.mem_of_getElem? (i := 11) rfl)) (by decide) (by decide)) (g := (mkF m 240 #[.val (.long p1), .second, .val (.int p2), .val (.int p3), .val (.int p4), .val (.ref a1), .val (.int nt), .val (.int nf), .val (.int (0 : Int32)), .val (.int (0 : Int32))] [(.int nt), (.int nf), (.ref a1)])) rfl (by rw [hml]; rfl) (argsL := [(.ref a1), (.int nf), (.int nt)]) (rest := []) (lenOf pd__28_5bBII_29I rfl) rfl (by show 2 * 0 + _ ≤ _; exact Nat.le_of_eq rfl) (hb hby at_240) (fun _ _ => ⟨rfl, e30, (by decide : 1 + 0 ≤ _), (by decide : 5 + 0 ≤ _)⟩)
      dsimp only [Pt.U, Pt.locs, Pt.cells, Pt.slots] at X81 ul81 uy81 uz81 st81 hQ81
      subst ul81 uy81 uz81
      obtain ⟨rfl, Nq81, e81⟩ := hQ81
      have N81 := Fr.app N30 Nq81
      have hc245_82 : (own_pde_0 (fun i => ([v0, v1, v2, v3, v4] : List Int32).getD i 0) nf nt) = (0 : Int32) := by rw [own_fin _ _ _ q2.1 q2.2 q1.2, own_exp, if_neg hc94, own_e, if_pos hc202]
      refine own_end X81 Bd.notSynchronized (v := some (.int (1 : Int32))) (fun h => by rw [Bd.returns] at h; cases h) (fun fs hr => ?_) e81 ?_ (by decide) (by decide)
      · show Steps p.tables e below (T30.setTop (mkF m 202 #[.val (.long p1), .second, .val (.int p2), .val (.int p3), .val (.int p4), .val (.ref a1), .val (.int nt), .val (.int nf), .val (.int (0 : Int32)), .unset] [(.int nt), (.int (1 : Int32))])) _
        refine XS.icmpNo X30.here hx rfl (hb hby at_202) rfl (teq hc202).2 ?_
        show Steps p.tables e below (T30.setTop (mkF m 205 #[.val (.long p1), .second, .val (.int p2), .val (.int p3), .val (.int p4), .val (.ref a1), .val (.int nt), .val (.int nf), .val (.int (0 : Int32)), .unset] [])) _
        refine XS.iload X30.here hx rfl (hb hby at_205) rfl ?_
        show Steps p.tables e below (T30.setTop (mkF m 207 #[.val (.long p1), .second, .val (.int p2), .val (.int p3), .val (.int p4), .val (.ref a1), .val (.int nt), .val (.int nf), .val (.int (0 : Int32)), .unset] [(.int (0 : Int32))])) _
        refine XS.istore X30.here hx rfl (hb hby at_207) rfl (l' := #[.val (.long p1), .second, .val (.int p2), .val (.int p3), .val (.int p4), .val (.ref a1), .val (.int nt), .val (.int nf), .val (.int (0 : Int32)), .val (.int (0 : Int32))]) rfl ?_
        show Steps p.tables e below (T30.setTop (mkF m 209 #[.val (.long p1), .second, .val (.int p2), .val (.int p3), .val (.int p4), .val (.ref a1), .val (.int nt), .val (.int nf), .val (.int (0 : Int32)), .val (.int (0 : Int32))] [])) _
        refine XS.goto X30.here hx rfl (pc0 := 209) (pc' := 234) rfl (hb hby at_209) (by decide) (by decide) ?_
        show Steps p.tables e below (T30.setTop (mkF m 234 #[.val (.long p1), .second, .val (.int p2), .val (.int p3), .val (.int p4), .val (.ref a1), .val (.int nt), .val (.int nf), .val (.int (0 : Int32)), .val (.int (0 : Int32))] [])) _
        refine XS.aload X30.here hx rfl (hb hby at_234) rfl rfl ?_
        show Steps p.tables e below (T30.setTop (mkF m 236 #[.val (.long p1), .second, .val (.int p2), .val (.int p3), .val (.int p4), .val (.ref a1), .val (.int nt), .val (.int nf), .val (.int (0 : Int32)), .val (.int (0 : Int32))] [(.ref a1)])) _
        refine XS.iload X30.here hx rfl (hb hby at_236) rfl ?_
        show Steps p.tables e below (T30.setTop (mkF m 238 #[.val (.long p1), .second, .val (.int p2), .val (.int p3), .val (.int p4), .val (.ref a1), .val (.int nt), .val (.int nf), .val (.int (0 : Int32)), .val (.int (0 : Int32))] [(.int nf), (.ref a1)])) _
        refine XS.iload X30.here hx rfl (hb hby at_238) rfl ?_
        show Steps p.tables e below (T30.setTop (mkF m 240 #[.val (.long p1), .second, .val (.int p2), .val (.int p3), .val (.int p4), .val (.ref a1), .val (.int nt), .val (.int nf), .val (.int (0 : Int32)), .val (.int (0 : Int32))] [(.int nt), (.int nf), (.ref a1)])) _
        refine st81 _ ?_
        show Steps p.tables e below (T81.setTop (mkF m 243 #[.val (.long p1), .second, .val (.int p2), .val (.int p3), .val (.int p4), .val (.ref a1), .val (.int nt), .val (.int nf), .val (.int (0 : Int32)), .val (.int (0 : Int32))] [(.int (own_pde_0 (fun i => ([v0, v1, v2, v3, v4] : List Int32).getD i 0) nf nt))])) _
        refine XS.iload X81.here hx rfl (hb hby at_243) rfl ?_
        show Steps p.tables e below (T81.setTop (mkF m 245 #[.val (.long p1), .second, .val (.int p2), .val (.int p3), .val (.int p4), .val (.ref a1), .val (.int nt), .val (.int nf), .val (.int (0 : Int32)), .val (.int (0 : Int32))] [(.int (0 : Int32)), (.int (own_pde_0 (fun i => ([v0, v1, v2, v3, v4] : List Int32).getD i 0) nf nt))])) _
        refine XS.icmpNo X81.here hx rfl (hb hby at_245) rfl (teq hc245_82).2 ?_
        show Steps p.tables e below (T81.setTop (mkF m 248 #[.val (.long p1), .second, .val (.int p2), .val (.int p3), .val (.int p4), .val (.ref a1), .val (.int nt), .val (.int nf), .val (.int (0 : Int32)), .val (.int (0 : Int32))] [])) _
        refine XS.iconst X81.here hx rfl (hb hby at_248) ?_
        show Steps p.tables e below (T81.setTop (mkF m 249 #[.val (.long p1), .second, .val (.int p2), .val (.int p3), .val (.int p4), .val (.ref a1), .val (.int nt), .val (.int nf), .val (.int (0 : Int32)), .val (.int (0 : Int32))] [(.int (1 : Int32))])) _
        refine XS.goto X81.here hx rfl (pc0 := 249) (pc' := 253) rfl (hb hby at_249) (by decide) (by decide) ?_
        show Steps p.tables e below (T81.setTop (mkF m 253 #[.val (.long p1), .second, .val (.int p2), .val (.int p3), .val (.int p4), .val (.ref a1), .val (.int nt), .val (.int nf), .val (.int (0 : Int32)), .val (.int (0 : Int32))] [(.int (1 : Int32))])) _
        exact retN X81 hx (t := .boolean) Bd.returns (by simp) (hb hby at_253) hr
      · exact ⟨rfl, N81⟩
    · have hi83 : ¬ (1 : Int32) < 0 ∧ (1 : Int32).toNatClampNeg < (5 : Int32).toNatClampNeg := by decide
      have ha83 : cl29.slots[(1 : Int32).toNatClampNeg]? = some (.int v1) := H29 _ (by rw [S29]; exact hi83.2)
      refine own_go (b := T30.setTop (mkF m 221 #[.val (.long p1), .second, .val (.int p2), .val (.int p3), .val (.int p4), .val (.ref a1), .val (.int nt), .val (.int nf), .val (.int (0 : Int32)), .unset] [(.int (94 : Int32)), (.int v1)])) (fun t k => ?_) ?_
      · show Steps p.tables e below (T30.setTop (mkF m 202 #[.val (.long p1), .second, .val (.int p2), .val (.int p3), .val (.int p4), .val (.ref a1), .val (.int nt), .val (.int nf), .val (.int (0 : Int32)), .unset] [(.int nt), (.int (1 : Int32))])) _
        refine XS.icmpYes X30.here hx rfl (pc0 := 202) (pc' := 212) rfl (hb hby at_202) rfl (feq hc202).2 (by decide) (by decide) ?_
        show Steps p.tables e below (T30.setTop (mkF m 212 #[.val (.long p1), .second, .val (.int p2), .val (.int p3), .val (.int p4), .val (.ref a1), .val (.int nt), .val (.int nf), .val (.int (0 : Int32)), .unset] [])) _
        refine XS.aload X30.here hx rfl (hb hby at_212) rfl rfl ?_
        show Steps p.tables e below (T30.setTop (mkF m 214 #[.val (.long p1), .second, .val (.int p2), .val (.int p3), .val (.int p4), .val (.ref a1), .val (.int nt), .val (.int nf), .val (.int (0 : Int32)), .unset] [(.ref a1)])) _
        refine XS.iload X30.here hx rfl (hb hby at_214) rfl ?_
        show Steps p.tables e below (T30.setTop (mkF m 216 #[.val (.long p1), .second, .val (.int p2), .val (.int p3), .val (.int p4), .val (.ref a1), .val (.int nt), .val (.int nf), .val (.int (0 : Int32)), .unset] [(.int (0 : Int32)), (.ref a1)])) _
        refine XS.iconst X30.here hx rfl (hb hby at_216) ?_
        show Steps p.tables e below (T30.setTop (mkF m 217 #[.val (.long p1), .second, .val (.int p2), .val (.int p3), .val (.int p4), .val (.ref a1), .val (.int nt), .val (.int nf), .val (.int (0 : Int32)), .unset] [(.int (1 : Int32)), (.int (0 : Int32)), (.ref a1)])) _
        refine XS.iadd X30.here hx rfl (hb hby at_217) rfl ?_
        show Steps p.tables e below (T30.setTop (mkF m 218 #[.val (.long p1), .second, .val (.int p2), .val (.int p3), .val (.int p4), .val (.ref a1), .val (.int nt), .val (.int nf), .val (.int (0 : Int32)), .unset] [(.int (1 : Int32)), (.ref a1)])) _
        refine X30.baloadBytes hx (j := (1 : Int32)) (v := (.int v1)) (by rw [e30]; exact Ar29.1) (State.isArrayOf_alike hZ.alike Ar29.2.1) Ar29.2.2 (own_hin S29 hi83) ha83 (g := (mkF m 218 #[.val (.long p1), .second, .val (.int p2), .val (.int p3), .val (.int p4), .val (.ref a1), .val (.int nt), .val (.int nf), .val (.int (0 : Int32)), .unset] [(.int (1 : Int32)), (.ref a1)])) rfl rfl (hb hby at_218) _ ?_
        show Steps p.tables e below (T30.setTop (mkF m 219 #[.val (.long p1), .second, .val (.int p2), .val (.int p3), .val (.int p4), .val (.ref a1), .val (.int nt), .val (.int nf), .val (.int (0 : Int32)), .unset] [(.int v1)])) _
        refine XS.bipush X30.here hx rfl (hb hby at_219) ?_
        show Steps p.tables e below (T30.setTop (mkF m 221 #[.val (.long p1), .second, .val (.int p2), .val (.int p3), .val (.int p4), .val (.ref a1), .val (.int nt), .val (.int nf), .val (.int (0 : Int32)), .unset] [(.int (94 : Int32)), (.int v1)])) _
        exact k
      by_cases hc221 : v1 = (94 : Int32)
      · obtain ⟨_, _, ⟨T84, uL84, uk84, un84⟩, -, X84, ⟨Lc84, hQ84, ul84, uy84, uz84⟩, st84⟩ := Jvm.LawKit.callS X30 hx (y := (⟨"com/example/fieldbook/fieldbook/Field", "plainDataEnd", "([BII)I"⟩ : MethodName)) hown (mvT hZ (hw _ (List.mem_of_getElem? (i := 9) rfl))) (mvT hZ (hw _ (List.mem_of_getElem? (i := 10) rfl))) (mvT hZ (hw _ (List.mem_of_getElem? (i := 11) rfl))) (mvT hZ (hw _ (List.mem_of_getElem? (i := 12) rfl))) (by decide) (backOf (W := 0) (rm3 l Z a0 hw [] a1 cl29 (fun i => ([v0, v1, v2, v3, v4] : List Int32).getD i 0) (5 : Int32) nf nt h25 n0 Z25 Ar29 S29 M29 (own_has (xs := ([v0, v1, v2, v3, v4] : List Int32)) H29 S29) q2.1 q2.2 q3) hZ (hw _ (List.mem_of_getElem? (i := 12) rfl)) (hw _ (List.mem_of_getElem? (i := 11) rfl)) (by decide) (by decide)) (g := (mkF m 240 #[.val (.long p1), .second, .val (.int p2), .val (.int p3), .val (.int p4), .val (.ref a1), .val (.int nt), .val (.int nf), .val (.int (0 : Int32)), .val (.int (-1 : Int32))] [(.int nt), (.int nf), (.ref a1)])) rfl (by rw [hml]; rfl) (argsL := [(.ref a1), (.int nf), (.int nt)]) (rest := []) (lenOf pd__28_5bBII_29I rfl) rfl (by show 2 * 0 + _ ≤ _; exact Nat.le_of_eq rfl) (hb hby at_240) (fun _ _ => ⟨rfl, e30, (by decide : 1 + 0 ≤ _), (by decide : 5 + 0 ≤ _)⟩)
        dsimp only [Pt.U, Pt.locs, Pt.cells, Pt.slots] at X84 ul84 uy84 uz84 st84 hQ84
        subst ul84 uy84 uz84
        obtain ⟨rfl, Nq84, e84⟩ := hQ84
        have N84 := Fr.app N30 Nq84
        have hc245_85 : (own_pde_0 (fun i => ([v0, v1, v2, v3, v4] : List Int32).getD i 0) nf nt) = (-1 : Int32) := by rw [own_fin _ _ _ q2.1 q2.2 q1.2, own_exp, if_neg hc94, own_e, if_neg hc202]; exact if_pos hc221
        refine own_end X84 Bd.notSynchronized (v := some (.int (1 : Int32))) (fun h => by rw [Bd.returns] at h; cases h) (fun fs hr => ?_) e84 ?_ (by decide) (by decide)
        · show Steps p.tables e below (T30.setTop (mkF m 221 #[.val (.long p1), .second, .val (.int p2), .val (.int p3), .val (.int p4), .val (.ref a1), .val (.int nt), .val (.int nf), .val (.int (0 : Int32)), .unset] [(.int (94 : Int32)), (.int v1)])) _
          refine XS.icmpYes X30.here hx rfl (pc0 := 221) (pc' := 231) rfl (hb hby at_221) rfl (teq hc221).1 (by decide) (by decide) ?_
          show Steps p.tables e below (T30.setTop (mkF m 231 #[.val (.long p1), .second, .val (.int p2), .val (.int p3), .val (.int p4), .val (.ref a1), .val (.int nt), .val (.int nf), .val (.int (0 : Int32)), .unset] [])) _
          refine XS.iconst X30.here hx rfl (hb hby at_231) ?_
          show Steps p.tables e below (T30.setTop (mkF m 232 #[.val (.long p1), .second, .val (.int p2), .val (.int p3), .val (.int p4), .val (.ref a1), .val (.int nt), .val (.int nf), .val (.int (0 : Int32)), .unset] [(.int (-1 : Int32))])) _
          refine XS.istore X30.here hx rfl (hb hby at_232) rfl (l' := #[.val (.long p1), .second, .val (.int p2), .val (.int p3), .val (.int p4), .val (.ref a1), .val (.int nt), .val (.int nf), .val (.int (0 : Int32)), .val (.int (-1 : Int32))]) rfl ?_
          show Steps p.tables e below (T30.setTop (mkF m 234 #[.val (.long p1), .second, .val (.int p2), .val (.int p3), .val (.int p4), .val (.ref a1), .val (.int nt), .val (.int nf), .val (.int (0 : Int32)), .val (.int (-1 : Int32))] [])) _
          refine XS.aload X30.here hx rfl (hb hby at_234) rfl rfl ?_
          show Steps p.tables e below (T30.setTop (mkF m 236 #[.val (.long p1), .second, .val (.int p2), .val (.int p3), .val (.int p4), .val (.ref a1), .val (.int nt), .val (.int nf), .val (.int (0 : Int32)), .val (.int (-1 : Int32))] [(.ref a1)])) _
          refine XS.iload X30.here hx rfl (hb hby at_236) rfl ?_
          show Steps p.tables e below (T30.setTop (mkF m 238 #[.val (.long p1), .second, .val (.int p2), .val (.int p3), .val (.int p4), .val (.ref a1), .val (.int nt), .val (.int nf), .val (.int (0 : Int32)), .val (.int (-1 : Int32))] [(.int nf), (.ref a1)])) _
          refine XS.iload X30.here hx rfl (hb hby at_238) rfl ?_
          show Steps p.tables e below (T30.setTop (mkF m 240 #[.val (.long p1), .second, .val (.int p2), .val (.int p3), .val (.int p4), .val (.ref a1), .val (.int nt), .val (.int nf), .val (.int (0 : Int32)), .val (.int (-1 : Int32))] [(.int nt), (.int nf), (.ref a1)])) _
          refine st84 _ ?_
          show Steps p.tables e below (T84.setTop (mkF m 243 #[.val (.long p1), .second, .val (.int p2), .val (.int p3), .val (.int p4), .val (.ref a1), .val (.int nt), .val (.int nf), .val (.int (0 : Int32)), .val (.int (-1 : Int32))] [(.int (own_pde_0 (fun i => ([v0, v1, v2, v3, v4] : List Int32).getD i 0) nf nt))])) _
          refine XS.iload X84.here hx rfl (hb hby at_243) rfl ?_
          show Steps p.tables e below (T84.setTop (mkF m 245 #[.val (.long p1), .second, .val (.int p2), .val (.int p3), .val (.int p4), .val (.ref a1), .val (.int nt), .val (.int nf), .val (.int (0 : Int32)), .val (.int (-1 : Int32))] [(.int (-1 : Int32)), (.int (own_pde_0 (fun i => ([v0, v1, v2, v3, v4] : List Int32).getD i 0) nf nt))])) _
          refine XS.icmpNo X84.here hx rfl (hb hby at_245) rfl (teq hc245_85).2 ?_
          show Steps p.tables e below (T84.setTop (mkF m 248 #[.val (.long p1), .second, .val (.int p2), .val (.int p3), .val (.int p4), .val (.ref a1), .val (.int nt), .val (.int nf), .val (.int (0 : Int32)), .val (.int (-1 : Int32))] [])) _
          refine XS.iconst X84.here hx rfl (hb hby at_248) ?_
          show Steps p.tables e below (T84.setTop (mkF m 249 #[.val (.long p1), .second, .val (.int p2), .val (.int p3), .val (.int p4), .val (.ref a1), .val (.int nt), .val (.int nf), .val (.int (0 : Int32)), .val (.int (-1 : Int32))] [(.int (1 : Int32))])) _
          refine XS.goto X84.here hx rfl (pc0 := 249) (pc' := 253) rfl (hb hby at_249) (by decide) (by decide) ?_
          show Steps p.tables e below (T84.setTop (mkF m 253 #[.val (.long p1), .second, .val (.int p2), .val (.int p3), .val (.int p4), .val (.ref a1), .val (.int nt), .val (.int nf), .val (.int (0 : Int32)), .val (.int (-1 : Int32))] [(.int (1 : Int32))])) _
          exact retN X84 hx (t := .boolean) Bd.returns (by simp) (hb hby at_253) hr
        · exact ⟨rfl, N84⟩
      · obtain ⟨_, _, ⟨T86, uL86, uk86, un86⟩, -, X86, ⟨Lc86, hQ86, ul86, uy86, uz86⟩, st86⟩ := Jvm.LawKit.callS X30 hx (y := (⟨"com/example/fieldbook/fieldbook/Field", "plainDataEnd", "([BII)I"⟩ : MethodName)) hown (mvT hZ (hw _ (List.mem_of_getElem? (i := 9) rfl))) (mvT hZ (hw _ (List.mem_of_getElem? (i := 10) rfl))) (mvT hZ (hw _ (List.mem_of_getElem? (i := 11) rfl))) (mvT hZ (hw _ (List.mem_of_getElem? (i := 12) rfl))) (by decide) (backOf (W := 0) (rm3 l Z a0 hw [] a1 cl29 (fun i => ([v0, v1, v2, v3, v4] : List Int32).getD i 0) (5 : Int32) nf nt h25 n0 Z25 Ar29 S29 M29 (own_has (xs := ([v0, v1, v2, v3, v4] : List Int32)) H29 S29) q2.1 q2.2 q3) hZ (hw _ (List.mem_of_getElem? (i := 12) rfl)) (hw _ (List.mem_of_getElem? (i := 11) rfl)) (by decide) (by decide)) (g := (mkF m 240 #[.val (.long p1), .second, .val (.int p2), .val (.int p3), .val (.int p4), .val (.ref a1), .val (.int nt), .val (.int nf), .val (.int (0 : Int32)), .val (.int (0 : Int32))] [(.int nt), (.int nf), (.ref a1)])) rfl (by rw [hml]; rfl) (argsL := [(.ref a1), (.int nf), (.int nt)]) (rest := []) (lenOf pd__28_5bBII_29I rfl) rfl (by show 2 * 0 + _ ≤ _; exact Nat.le_of_eq rfl) (hb hby at_240) (fun _ _ => ⟨rfl, e30, (by decide : 1 + 0 ≤ _), (by decide : 5 + 0 ≤ _)⟩)
        dsimp only [Pt.U, Pt.locs, Pt.cells, Pt.slots] at X86 ul86 uy86 uz86 st86 hQ86
        subst ul86 uy86 uz86
        obtain ⟨rfl, Nq86, e86⟩ := hQ86
        have N86 := Fr.app N30 Nq86
        have hc245_87 : (own_pde_0 (fun i => ([v0, v1, v2, v3, v4] : List Int32).getD i 0) nf nt) = (0 : Int32) := by rw [own_fin _ _ _ q2.1 q2.2 q1.2, own_exp, if_neg hc94, own_e, if_neg hc202]; exact if_neg hc221
        refine own_end X86 Bd.notSynchronized (v := some (.int (1 : Int32))) (fun h => by rw [Bd.returns] at h; cases h) (fun fs hr => ?_) e86 ?_ (by decide) (by decide)
        · show Steps p.tables e below (T30.setTop (mkF m 221 #[.val (.long p1), .second, .val (.int p2), .val (.int p3), .val (.int p4), .val (.ref a1), .val (.int nt), .val (.int nf), .val (.int (0 : Int32)), .unset] [(.int (94 : Int32)), (.int v1)])) _
          refine XS.icmpNo X30.here hx rfl (hb hby at_221) rfl (feq hc221).1 ?_
          show Steps p.tables e below (T30.setTop (mkF m 224 #[.val (.long p1), .second, .val (.int p2), .val (.int p3), .val (.int p4), .val (.ref a1), .val (.int nt), .val (.int nf), .val (.int (0 : Int32)), .unset] [])) _
          refine XS.iload X30.here hx rfl (hb hby at_224) rfl ?_
          show Steps p.tables e below (T30.setTop (mkF m 226 #[.val (.long p1), .second, .val (.int p2), .val (.int p3), .val (.int p4), .val (.ref a1), .val (.int nt), .val (.int nf), .val (.int (0 : Int32)), .unset] [(.int (0 : Int32))])) _
          refine XS.istore X30.here hx rfl (hb hby at_226) rfl (l' := #[.val (.long p1), .second, .val (.int p2), .val (.int p3), .val (.int p4), .val (.ref a1), .val (.int nt), .val (.int nf), .val (.int (0 : Int32)), .val (.int (0 : Int32))]) rfl ?_
          show Steps p.tables e below (T30.setTop (mkF m 228 #[.val (.long p1), .second, .val (.int p2), .val (.int p3), .val (.int p4), .val (.ref a1), .val (.int nt), .val (.int nf), .val (.int (0 : Int32)), .val (.int (0 : Int32))] [])) _
          refine XS.goto X30.here hx rfl (pc0 := 228) (pc' := 234) rfl (hb hby at_228) (by decide) (by decide) ?_
          show Steps p.tables e below (T30.setTop (mkF m 234 #[.val (.long p1), .second, .val (.int p2), .val (.int p3), .val (.int p4), .val (.ref a1), .val (.int nt), .val (.int nf), .val (.int (0 : Int32)), .val (.int (0 : Int32))] [])) _
          refine XS.aload X30.here hx rfl (hb hby at_234) rfl rfl ?_
          show Steps p.tables e below (T30.setTop (mkF m 236 #[.val (.long p1), .second, .val (.int p2), .val (.int p3), .val (.int p4), .val (.ref a1), .val (.int nt), .val (.int nf), .val (.int (0 : Int32)), .val (.int (0 : Int32))] [(.ref a1)])) _
          refine XS.iload X30.here hx rfl (hb hby at_236) rfl ?_
          show Steps p.tables e below (T30.setTop (mkF m 238 #[.val (.long p1), .second, .val (.int p2), .val (.int p3), .val (.int p4), .val (.ref a1), .val (.int nt), .val (.int nf), .val (.int (0 : Int32)), .val (.int (0 : Int32))] [(.int nf), (.ref a1)])) _
          refine XS.iload X30.here hx rfl (hb hby at_238) rfl ?_
          show Steps p.tables e below (T30.setTop (mkF m 240 #[.val (.long p1), .second, .val (.int p2), .val (.int p3), .val (.int p4), .val (.ref a1), .val (.int nt), .val (.int nf), .val (.int (0 : Int32)), .val (.int (0 : Int32))] [(.int nt), (.int nf), (.ref a1)])) _
          refine st86 _ ?_
          show Steps p.tables e below (T86.setTop (mkF m 243 #[.val (.long p1), .second, .val (.int p2), .val (.int p3), .val (.int p4), .val (.ref a1), .val (.int nt), .val (.int nf), .val (.int (0 : Int32)), .val (.int (0 : Int32))] [(.int (own_pde_0 (fun i => ([v0, v1, v2, v3, v4] : List Int32).getD i 0) nf nt))])) _
          refine XS.iload X86.here hx rfl (hb hby at_243) rfl ?_
          show Steps p.tables e below (T86.setTop (mkF m 245 #[.val (.long p1), .second, .val (.int p2), .val (.int p3), .val (.int p4), .val (.ref a1), .val (.int nt), .val (.int nf), .val (.int (0 : Int32)), .val (.int (0 : Int32))] [(.int (0 : Int32)), (.int (own_pde_0 (fun i => ([v0, v1, v2, v3, v4] : List Int32).getD i 0) nf nt))])) _
          refine XS.icmpNo X86.here hx rfl (hb hby at_245) rfl (teq hc245_87).2 ?_
          show Steps p.tables e below (T86.setTop (mkF m 248 #[.val (.long p1), .second, .val (.int p2), .val (.int p3), .val (.int p4), .val (.ref a1), .val (.int nt), .val (.int nf), .val (.int (0 : Int32)), .val (.int (0 : Int32))] [])) _
          refine XS.iconst X86.here hx rfl (hb hby at_248) ?_
          show Steps p.tables e below (T86.setTop (mkF m 249 #[.val (.long p1), .second, .val (.int p2), .val (.int p3), .val (.int p4), .val (.ref a1), .val (.int nt), .val (.int nf), .val (.int (0 : Int32)), .val (.int (0 : Int32))] [(.int (1 : Int32))])) _
          refine XS.goto X86.here hx rfl (pc0 := 249) (pc' := 253) rfl (hb hby at_249) (by decide) (by decide) ?_
          show Steps p.tables e below (T86.setTop (mkF m 253 #[.val (.long p1), .second, .val (.int p2), .val (.int p3), .val (.int p4), .val (.ref a1), .val (.int nt), .val (.int nf), .val (.int (0 : Int32)), .val (.int (0 : Int32))] [(.int (1 : Int32))])) _
          exact retN X86 hx (t := .boolean) Bd.returns (by simp) (hb hby at_253) hr
        · exact ⟨rfl, N86⟩
set_option maxRecDepth 65536 in
set_option maxHeartbeats 40000000 in
theorem comes_1 {Post : Tables → Env → Array Value → State → Outcome → State → Prop} (hpost : ∀ tb e args s v u, (limb_1_1.after args s (.returned v) u = true ∧ limb_1_2.after args s (.returned v) u = true ∧ True) → FrameEnd s (.returned v) u (Jvm.fieldLocs frame_1_writes args s ++ Jvm.arrayLocs frame_1_arrays args s ++ Jvm.staticLocs frame_1_statics s) 16 128 → Post tb e args s (.returned v) u) :
    ArmFor flags0 classFile x code maxLocals ret World_1 tables_1 room_1 Calls_1 rest_1 Pre_1 Post := by
  intro l hfl _ _ p e ha hc hk s m args below hf hA hF happ hP
  obtain ⟨hcalls, hrest, hpre⟩ := hP
  obtain ⟨-, -, -, hnamed, -, -, -, hat⟩ := (Spec.applies_iff hf).mp happ
  obtain ⟨hg, hn⟩ := and_e (Cond.before_iff.mp (show (Jvm.Cond.and given_1 narrow_1).before args s = true from hpre))
  obtain ⟨g0, r0⟩ := and_e hg
  obtain ⟨g1, r1⟩ := and_e r0
  obtain ⟨g2, r2⟩ := and_e r1
  obtain ⟨g3, r3⟩ := and_e r2
  obtain ⟨w0, w1, w2, w3, rfl⟩ : ∃ w0 w1 w2 w3 : Value, args = #[w0, w1, w2, w3] := by
    have hs : args.size = 4 := by simpa [Cond.value, given_1] using g0
    obtain ⟨L⟩ := args
    match L, hs with
    | [w0, w1, w2, w3], _ => exact ⟨w0, w1, w2, w3, rfl⟩
  have hw := fun d (hd : d ∈ tables_1) => atoms_spec (ws := Jvm.Cond.code x code maxLocals ret :: tables_1) hat d (List.mem_cons_of_mem _ hd)
  obtain ⟨i0, y0⟩ := isL_v g1
  obtain rfl : w0 = (.long i0) := Option.some.inj y0
  obtain ⟨i1, y1⟩ := is_v g2
  obtain rfl : w1 = (.int i1) := Option.some.inj y1
  obtain ⟨i2, y2⟩ := is_v g3
  obtain rfl : w2 = (.int i2) := Option.some.inj y2
  obtain ⟨i3, y3⟩ := is_v r3
  obtain rfl : w3 = (.int i3) := Option.some.inj y3
  obtain ⟨n, o, h1, h2, h3, _, L, rfl, ⟨rfl, N⟩, hq⟩ := rm0 l s _ hw tables_1 i0 i1 i2 i3 s.heap s.heap.size (Nat.le_refl _) p e ha hc hk s m _ below hf ((Spec.applies_iff_loose hf).mp happ).1 ⟨rfl, State.Warmed39.refl s, rfl⟩ trivial
  refine ⟨n, _, h1, h2, h3, hpost _ _ _ _ _ _ ⟨Cond.after_iff.mpr rfl, Cond.after_iff.mpr (eq_i res_at (Term.int_eval (1)) rfl), trivial⟩ ⟨hq.1, hq.2.1, (hq.2.2.sift fun y hy => Or.inr (N y hy)).mono (by decide) (by decide)⟩⟩
theorem main_1_1 : Claimed_1_1 := comes_1 fun _ _ _ _ _ _ h hF => ⟨h.1, hF⟩
theorem main_1_2 : Claimed_1_2 := comes_1 fun _ _ _ _ _ _ h hF => ⟨h.2.1, hF⟩
end Jvm.Pilot.@@N@@
namespace Jvm.Pilot.@@N@@
open Jvm Jvm.ClassFile Sem Op Lib Jvm.Free Jvm.Stand Jvm.Pilot.@@N@@.Jvm.D
/-! MADE BY PROGRAM (witnessworld.py) out of the Statement's table words and the real class files: 8 classes; the members and pool entries that the words name. The judged class is class 1, her method 3. -/
namespace start1
open Jvm.ClassFile
def u (s : String) : CpInfo := .utf8 (stringToUtf16 s)
/-- a pool by its gaps: so many unusable entries, then the entry; so many at the end -/
def gap : Nat → List CpInfo → List CpInfo
  | 0, r => r
  | n + 1, r => .unusable :: gap n r
def poolList (es : List (Nat × CpInfo)) (last : Nat) : List CpInfo := es.foldr (fun e r => gap e.1 (e.2 :: r)) (gap last [])
def pool (es : List (Nat × CpInfo)) (last : Nat) : Array CpInfo := ⟨poolList es last⟩
def fileOf (pool : Array CpInfo) (this : Nat) (attrs : Array Attribute := #[]) (ms : Array MethodInfo := #[]) (fl : Nat := 33) (sup : Nat := 0) (ifs : Array Nat := #[]) (fds : Array FieldInfo := #[]) : ClassFile where
  minorVersion := 0
  majorVersion := 65
  constantPool := pool
  accessFlags := fl
  thisClass := this
  superClass := sup
  interfaces := ifs
  fields := fds
  methods := ms
  attributes := attrs
def plain (name : String) (sup : Option ClassId) : Class where
  name := name
  kind := .ordinary
  loader := none
  accessFlags := 33
  super := sup
  interfaces := #[]
  cf := none
  fields := #[]
  methods := #[]
  instanceTypes := #[]
  staticTypes := #[]
  resolved := #[]
  callSites := []
  init := .initialized
  statics := none
  mirror := none

def pool0 : Array CpInfo := pool [(5, u "<init>"), (0, u "()V"), (1, .class_ 10), (1, u "java/lang/Object")] 113

def k0m0 : Method := { name := "<init>", desc := "()V", sig := { parameters := [], returnType := none }, accessFlags := 1, code := none }
/-- java/lang/Object -/
def k0 : Class := { plain "java/lang/Object" none with
  accessFlags := 33
  interfaces := #[]
  cf := some (fileOf pool0 8 #[] #[{ accessFlags := 1, nameIndex := 5, descriptorIndex := 6, attributes := #[] }] 33 0 #[] #[])
  fields := #[]
  methods := #[k0m0]
  instanceTypes := #[]
  staticTypes := #[]
  resolved := Array.replicate 124 none
  statics := none }

def pool1 : Array CpInfo := pool [(2, .class_ 4), (1, u "java/lang/Object"), (0, u "<init>"), (0, u "()V"), (0, .methodref 8 9), (0, .class_ 10), (0, .nameAndType 11 12), (0, u "com/example/fieldbook/fieldbook/FieldPlainDataEndPinLaw"), (0, u "pick"), (0, u "(JII)B"), (0, .integer 2147483647), (0, .methodref 8 15), (0, .nameAndType 16 17), (0, u "mark"), (0, u "([BIII)Z"), (0, .methodref 19 20), (0, .class_ 21), (0, .nameAndType 22 23), (0, u "com/example/fieldbook/fieldbook/Field"), (0, u "plainDataEnd"), (0, u "([BII)I"), (3, u "law"), (0, u "(JIII)Z")] 4

def k1m0 : Method := { name := "<init>", desc := "()V", sig := { parameters := [], returnType := none }, accessFlags := 1, code := none }
def k1c1 : Code := { maxStack := 2, maxLocals := 4, code := method_2_code, exceptionTable := #[], attributes := #[] }
def k1m1 : Method := { name := "mark", desc := "([BIII)Z", sig := { parameters := [(.array .byte), .int, .int, .int], returnType := some .boolean }, accessFlags := 10, code := some k1c1 }
def k1c2 : Code := { maxStack := 4, maxLocals := 4, code := method_3_code, exceptionTable := #[], attributes := #[] }
def k1m2 : Method := { name := "pick", desc := "(JII)B", sig := { parameters := [.long, .int, .int], returnType := some .byte }, accessFlags := 10, code := some k1c2 }
def k1c3 : Code := { maxStack := 6, maxLocals := 10, code := code, exceptionTable := #[], attributes := #[] }
def k1m3 : Method := { name := "law", desc := "(JIII)Z", sig := { parameters := [.long, .int, .int, .int], returnType := some .boolean }, accessFlags := 9, code := some k1c3 }
/-- com/example/fieldbook/fieldbook/FieldPlainDataEndPinLaw -/
def k1 : Class := { plain "com/example/fieldbook/fieldbook/FieldPlainDataEndPinLaw" (some 0) with
  accessFlags := 49
  interfaces := #[]
  cf := some (fileOf pool1 8 #[] #[{ accessFlags := 1, nameIndex := 5, descriptorIndex := 6, attributes := #[] }, { accessFlags := 10, nameIndex := 16, descriptorIndex := 17, attributes := #[] }, { accessFlags := 10, nameIndex := 11, descriptorIndex := 12, attributes := #[] }, { accessFlags := 9, nameIndex := 27, descriptorIndex := 28, attributes := #[] }] 49 2 #[] #[])
  fields := #[]
  methods := #[k1m0, k1m1, k1m2, k1m3]
  instanceTypes := #[]
  staticTypes := #[]
  resolved := Array.replicate 33 none
  statics := none }

def pool2 : Array CpInfo := pool [(2, .class_ 4), (1, u "java/lang/Object"), (0, u "<init>"), (0, u "()V"), (0, .class_ 8), (0, u "java/lang/Record")] 13

def k2m0 : Method := { name := "<init>", desc := "()V", sig := { parameters := [], returnType := none }, accessFlags := 4, code := none }
/-- java/lang/Record -/
def k2 : Class := { plain "java/lang/Record" (some 0) with
  accessFlags := 1057
  interfaces := #[]
  cf := some (fileOf pool2 7 #[] #[{ accessFlags := 4, nameIndex := 5, descriptorIndex := 6, attributes := #[] }] 1057 2 #[] #[])
  fields := #[]
  methods := #[k2m0]
  instanceTypes := #[]
  staticTypes := #[]
  resolved := Array.replicate 22 none
  statics := none }

def pool3 : Array CpInfo := pool [(2, .class_ 4), (1, u "java/lang/Record"), (2, .class_ 8), (0, u "com/example/fieldbook/fieldbook/Field"), (12, u "tag"), (0, u "I"), (2, u "value"), (0, u "Ljava/lang/String;"), (10, u "([BII)I"), (41, u "LEADER_TAG"), (2, u "MAX_TAG"), (0, u "SUBFIELD_MARK"), (0, u "C"), (9, u "plainDataEnd")] 35

def k3c0 : Code := { maxStack := 3, maxLocals := 4, code := prog_63_method_5_code, exceptionTable := #[], attributes := #[] }
def k3m0 : Method := { name := "plainDataEnd", desc := "([BII)I", sig := { parameters := [(.array .byte), .int, .int], returnType := some .int }, accessFlags := 8, code := some k3c0 }
/-- com/example/fieldbook/fieldbook/Field -/
def k3 : Class := { plain "com/example/fieldbook/fieldbook/Field" (some 2) with
  accessFlags := 49
  interfaces := #[]
  cf := some (fileOf pool3 7 #[] #[{ accessFlags := 8, nameIndex := 94, descriptorIndex := 37, attributes := #[] }] 49 2 #[] #[{ accessFlags := 18, nameIndex := 21, descriptorIndex := 22, attributes := #[] }, { accessFlags := 18, nameIndex := 25, descriptorIndex := 26, attributes := #[] }, { accessFlags := 25, nameIndex := 79, descriptorIndex := 22, attributes := #[] }, { accessFlags := 25, nameIndex := 82, descriptorIndex := 22, attributes := #[] }, { accessFlags := 24, nameIndex := 83, descriptorIndex := 84, attributes := #[] }])
  fields := #[{ name := "tag", type := .int, accessFlags := 18, slot := 0, constantValue := 0 }, { name := "value", type := (.object "java/lang/String"), accessFlags := 18, slot := 1, constantValue := 0 }, { name := "LEADER_TAG", type := .int, accessFlags := 25, slot := 0, constantValue := 0 }, { name := "MAX_TAG", type := .int, accessFlags := 25, slot := 1, constantValue := 0 }, { name := "SUBFIELD_MARK", type := .char, accessFlags := 24, slot := 2, constantValue := 0 }]
  methods := #[k3m0]
  instanceTypes := #[.int, (.object "java/lang/String")]
  staticTypes := #[.int, .int, .char]
  resolved := Array.replicate 130 none
  statics := none }

def pool4 : Array CpInfo := pool [(1, u "java/lang/Cloneable"), (0, .class_ 1), (0, u "java/lang/Object"), (0, .class_ 3)] 3

/-- java/lang/Cloneable -/
def k4 : Class := { plain "java/lang/Cloneable" (some 0) with
  accessFlags := 1537
  interfaces := #[]
  cf := some (fileOf pool4 2 #[] #[] 1537 4 #[] #[])
  fields := #[]
  methods := #[]
  instanceTypes := #[]
  staticTypes := #[]
  resolved := Array.replicate 8 none
  statics := none }

def pool5 : Array CpInfo := pool [(1, u "java/io/Serializable"), (0, .class_ 1), (0, u "java/lang/Object"), (0, .class_ 3)] 3

/-- java/io/Serializable -/
def k5 : Class := { plain "java/io/Serializable" (some 0) with
  accessFlags := 1537
  interfaces := #[]
  cf := some (fileOf pool5 2 #[] #[] 1537 4 #[] #[])
  fields := #[]
  methods := #[]
  instanceTypes := #[]
  staticTypes := #[]
  resolved := Array.replicate 8 none
  statics := none }

/-- the primitive byte -/
def k6 : Class := { plain "byte" none with kind := .primitive 'B', accessFlags := 0x411 }
/-- [B -/
def k7 : Class := { plain "[B" (some 0) with kind := .array 6 .byte, interfaces := #[4, 5], accessFlags := 1041 }

def heap : Heap := #[]
def classes : Array Class := #[k0, k1, k2, k3, k4, k5, k6, k7]
def interned : List (Array UInt16 × Addr) := []
def slotsUsed : Nat := 0
def theMethod : MethodId := ⟨1, 3⟩
def args0 : Array Value := #[.long 5, .int 1, .int 2, .int 3]
def aboutOver (below : List Frame) : State where
  vm := { classes := classes, interned := interned.toArray }
  heap := heap
  slotsUsed := slotsUsed
  threads := #[{ frames := .invoking theMethod args0 :: below }]
def below0 : List Frame := [.native { method := ⟨0, 0⟩, args := #[] }]
def about1 : State := aboutOver below0
def p0 : Program := .bare "" "" ""
def e0 : Env := launch0.env 0 0 0
theorem w_frames : about1.frames = Frame.invoking theMethod args0 :: below0 := rfl
set_option maxRecDepth 65536 in
theorem w_args : argsFit about1.vm theMethod args0 = true := by decide +kernel
set_option maxRecDepth 65536 in
theorem w_heap : heapFits about1 = true := by decide +kernel
set_option maxRecDepth 65536 in
theorem w_runnable : about1.curStatus? = some .runnable := by decide +kernel
set_option maxRecDepth 65536 in
theorem w_alone : about1.alone = true := by decide +kernel
set_option maxRecDepth 65536 in
theorem w_named : about1.methodNamed? x = some theMethod := by decide +kernel
set_option maxRecDepth 65536 in
theorem w_hears : about1.hears theMethod below0 = true := by decide +kernel
set_option maxRecDepth 65536 in
theorem w_ripe : about1.ripe theMethod args0 below0 = true := by decide +kernel
theorem w_running : about1.status = .running := rfl
set_option maxRecDepth 65536 in
theorem w_room : about1.hasRoom e0.platform room_1 = true :=
  launch0.hasRoom_least _ room_1 (by decide +kernel) (by decide +kernel) (by decide +kernel) (by decide +kernel) (by decide +kernel) (by decide +kernel)
theorem allAtoms_all (ts : List Jvm.Cond) (a : Array Jvm.Value) (st : Jvm.State) : (allAtoms ts).before a st = ts.all (fun c => c.before a st) := by
  induction ts with
  | nil => rfl
  | cons c t ih =>
    show (Jvm.Cond.and c (allAtoms t)).before a st = _
    rw [Jvm.Cond.before_and, ih, List.all_cons]
def words1 : List Jvm.Cond := Jvm.Cond.code x code maxLocals ret :: tables_1
/-- a 'code' word, met by the world's own term for the bytes: nothing is compared byte by byte -/
theorem code_word {y : MethodName} {bytes : ByteArray} {mx : Nat} {rt : Option FieldType} {a : Array Value} {s : State} {m : MethodId} {meth : Method} {c : Code} (h1 : s.methodNamed? y = some m) (h2 : s.vm.method? m = some meth) (h3 : meth.code = some c) (h4 : c.code = bytes)
    (h5 : (c.maxLocals == mx && c.exceptionTable.isEmpty && decide (c.maxStack ≤ mostOperands) && decide (meth.sig.returnType = rt) && !meth.locks && decide (parseMethodDescriptor y.desc = some meth.sig)) = true) : (Jvm.Cond.code y bytes mx rt).before a s = true := by
  simp only [Bool.and_eq_true, beq_iff_eq, Bool.not_eq_true', decide_eq_true_eq] at h5
  obtain ⟨⟨⟨⟨⟨g1, g2⟩, g3⟩, g4⟩, g5⟩, g6⟩ := h5
  simp [Cond.before, Cond.holds, Cond.value, h1, h2, h3, h4, g1, g2, g3, g4, g5, g6]
def isCode : Jvm.Cond → Bool
  | .code _ _ _ _ => true
  | _ => false
theorem all_split {L : List Jvm.Cond} {P : Jvm.Cond → Bool} (h1 : L.all (fun c => isCode c || P c) = true) (h2 : ∀ c ∈ L.filter isCode, P c = true) : L.all P = true := by
  refine List.all_eq_true.mpr fun c hc => ?_
  have h := List.all_eq_true.mp h1 c hc
  rcases Bool.eq_false_or_eq_true (isCode c) with hi | hi
  · exact h2 c (List.mem_filter.mpr ⟨hc, hi⟩)
  · simpa [hi] using h
set_option maxRecDepth 65536 in
theorem w_c0 : (Jvm.Cond.code x code maxLocals ret).before args0 about1 = true := code_word (m := ⟨1, 3⟩) (meth := k1m3) (c := k1c3) (by decide +kernel) rfl rfl rfl (by decide +kernel)
set_option maxRecDepth 65536 in
theorem w_c1 : (Jvm.Cond.code ({ cls := "com/example/fieldbook/fieldbook/FieldPlainDataEndPinLaw", name := "pick", desc := "(JII)B" } : Jvm.MethodName) method_3_code (4 : Nat) (Option.some Jvm.ClassFile.FieldType.byte)).before args0 about1 = true := code_word (m := ⟨1, 2⟩) (meth := k1m2) (c := k1c2) (by decide +kernel) rfl rfl rfl (by decide +kernel)
set_option maxRecDepth 65536 in
theorem w_c2 : (Jvm.Cond.code ({ cls := "com/example/fieldbook/fieldbook/FieldPlainDataEndPinLaw", name := "mark", desc := "([BIII)Z" } : Jvm.MethodName) method_2_code (4 : Nat) (Option.some Jvm.ClassFile.FieldType.boolean)).before args0 about1 = true := code_word (m := ⟨1, 1⟩) (meth := k1m1) (c := k1c1) (by decide +kernel) rfl rfl rfl (by decide +kernel)
set_option maxRecDepth 65536 in
theorem w_c3 : (Jvm.Cond.code ({ cls := "com/example/fieldbook/fieldbook/Field", name := "plainDataEnd", desc := "([BII)I" } : Jvm.MethodName) prog_63_method_5_code (4 : Nat) (Option.some Jvm.ClassFile.FieldType.int)).before args0 about1 = true := code_word (m := ⟨3, 0⟩) (meth := k3m0) (c := k3c0) (by decide +kernel) rfl rfl rfl (by decide +kernel)
def codes1 : List Jvm.Cond := [Jvm.Cond.code x code maxLocals ret, Jvm.Cond.code ({ cls := "com/example/fieldbook/fieldbook/FieldPlainDataEndPinLaw", name := "pick", desc := "(JII)B" } : Jvm.MethodName) method_3_code (4 : Nat) (Option.some Jvm.ClassFile.FieldType.byte), Jvm.Cond.code ({ cls := "com/example/fieldbook/fieldbook/FieldPlainDataEndPinLaw", name := "mark", desc := "([BIII)Z" } : Jvm.MethodName) method_2_code (4 : Nat) (Option.some Jvm.ClassFile.FieldType.boolean), Jvm.Cond.code ({ cls := "com/example/fieldbook/fieldbook/Field", name := "plainDataEnd", desc := "([BII)I" } : Jvm.MethodName) prog_63_method_5_code (4 : Nat) (Option.some Jvm.ClassFile.FieldType.int)]
set_option maxRecDepth 65536 in
theorem codes_eq : words1.filter isCode = codes1 := rfl
theorem w_codes : ∀ c ∈ words1.filter isCode, c.before args0 about1 = true := by
  rw [codes_eq]
  intro c hc
  simp only [codes1, List.mem_cons, List.not_mem_nil, or_false] at hc
  rcases hc with rfl | rfl | rfl | rfl
  · exact w_c0
  · exact w_c1
  · exact w_c2
  · exact w_c3
set_option maxRecDepth 65536 in
theorem w_t1 : words1.all (fun c => isCode c || c.before args0 about1) = true := by decide +kernel
theorem w_tables : (allAtoms (Jvm.Cond.code x code maxLocals ret :: tables_1)).before args0 about1 = true := by
  rw [allAtoms_all]
  show words1.all (fun c => c.before args0 about1) = true
  refine all_split ?_ w_codes
  rw [w_t1]
set_option maxRecDepth 65536 in
theorem w_case : (Jvm.Cond.and given_1 narrow_1).before args0 about1 = true := by decide +kernel
theorem w_applies : (headSpec (Jvm.Cond.code x code maxLocals ret :: tables_1) room_1).applies x e0.platform about1 = true :=
  (Spec.applies_iff w_frames).mpr ⟨w_running, w_runnable, w_alone, w_named, w_hears, w_ripe, w_room, w_tables⟩
theorem atStart : AtStart classFile x code maxLocals ret World_1 tables_1 room_1 Calls_1 rest_1 Pre_1 launch0 p0 e0 about1 theMethod args0 below0 :=
  ⟨lists_1, trivial, launch0.admits_env _ _ _, launch0.least_env, fairChoices_fair.cas, fairChoices_fair.clock, w_frames, w_args, w_heap, w_applies, trivial, trivial, w_case⟩
end start1
theorem witness_1 : WitnessClaimed_1 := ⟨start1.p0, start1.e0, start1.about1, start1.theMethod, start1.args0, start1.below0, start1.atStart⟩
end Jvm.Pilot.@@N@@
