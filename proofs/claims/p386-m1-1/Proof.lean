import JvmDerived
import JvmDerived.Pilot.@@N@@Statement
import JvmDerived.Pilot.@@N@@Code
set_option linter.unusedVariables false
set_option linter.unusedSimpArgs false
@@BLOCK:NumsL.lean.txt@@
@@BLOCK:Masks.lean.txt@@
namespace Jvm.RoadKit
open Sem ClassFile Op Lib Jvm.Stand Jvm.Free Jvm.LawKit
section New
variable {p : Program} {l : Launch} {e : Env} {R : Room} {s : State} {m : MethodId} {args : Array Value} {below : List Frame} {meth : Method} {c : Code} {T : State} {locs : List Loc} {cells slots : Nat}
theorem retI (X : Stand p l e R s m args below meth c T locs cells slots) (hx : p.tables.exec = Jvm.exec) {pc : Nat} {Ls : Array Slot} {z : Int32} {rest : List Value} (hret : meth.sig.returnType = some .int) (hd : decode c.code pc = .ok (.ireturn, 1)) {fs : List Frame}
    (hl : ∀ (f : JFrame) (acts : List Action), f.method = m → f.locked = none → f.entered = [] → (doReturn e (T.setTop f) acts (some (.int z))).1 = T.setFrames fs) : Steps p.tables e below (T.setTop (mkF m pc Ls (.int z :: rest))) (T.setFrames fs) := by
  have hm' : T.vm.method? m = some meth := X.method'
  have hn : narrow .int (.int z) = .int z := rfl
  show Steps p.tables e below (T.setTop { method := m, pc := pc, locals := Ls, stack := _ :: rest, locked := none }) _
  jvm_step X.here [X.here.top, hx, hd, hm', hret, hn]
  first | (intro acts; rw [hl _ acts rfl rfl rfl]) | rw [hl _ _ rfl rfl rfl]
  exact Steps.refl _
end New
end Jvm.RoadKit
namespace Jvm.Pilot.@@N@@
open Jvm Jvm.ClassFile Sem Op Lib Jvm.Free Jvm.Stand Jvm.LawKit Jvm.RoadKit Bundle Jvm.Pilot.@@N@@.Jvm.D
abbrev own_Go (p : Program) (e : Env) (below : List Frame) (s : State) (Q : Option Value → Heap → List Loc → Prop) (cs ss : Nat) (a : State) : Prop := ∃ (t : State) (o : Outcome), Steps p.tables e below a t ∧ t.status = .running ∧ Ended t below o ∧ ∃ (v : Option Value) (L : List Loc), o = .returned v ∧ Q v t.heap L ∧ FrameEnd s o t L cs ss
section Own
variable {p : Program} {l : Launch} {e : Env} {R : Room} {s : State} {m : MethodId} {args : Array Value} {below : List Frame} {meth : Method} {c : Code} {T : State} {locs : List Loc} {cells slots : Nat} {Q : Option Value → Heap → List Loc → Prop} {cs ss : Nat}
theorem own_go {a b : State} (h : ∀ t, Steps p.tables e below b t → Steps p.tables e below a t) (g : own_Go p e below s Q cs ss b) : own_Go p e below s Q cs ss a := by
  obtain ⟨t, o, h1, h2⟩ := g
  exact ⟨t, o, h t h1, h2⟩
theorem own_end (X : Stand p l e R s m args below meth c T locs cells slots) (hlk : meth.locks = false) {v : Option Value} (hv : meth.sig.returnType = none → v = none) {a : State}
    (hs : ∀ fs, (∀ (f : JFrame) (acts : List Action), f.method = m → f.locked = none → f.entered = [] → (doReturn e (T.setTop f) acts v).1 = T.setFrames fs) → Steps p.tables e below a (T.setFrames fs))
    {h : Heap} (eT : T.heap = h) (hq : Q v h locs) (h1 : cells ≤ cs) (h2 : slots ≤ ss) : own_Go p e below s Q cs ss a := by
  obtain ⟨fs, hr, hrun, hended, hW, hsame⟩ := X.leave hv hlk
  subst eT
  exact ⟨_, _, hs fs hr, hrun, hended, _, _, rfl, hq, ⟨_, rfl⟩, hW, hsame.mono h1 h2⟩
end Own
theorem own_hin {n : Nat} {cl : Cell} {j : Int32} (S : cl.slots.size = n) (h : ¬ j < 0 ∧ j.toNatClampNeg < n) : ¬ (j < 0 ∨ cl.slots.size ≤ j.toNatClampNeg) := by
  rw [S]; exact fun q => q.elim h.1 (fun u => absurd h.2 (Nat.not_lt.mpr u))
theorem own_has {cl : Cell} {xs : List Int32} {n : Nat} (H : Has cl (xs.map Value.int) (.int 0)) (S : cl.slots.size = n) : ∀ i, i < n → cl.slots[i]? = some (.int (xs.getD i 0)) := by
  intro i hi
  rw [H i (by rw [S]; exact hi)]
  simp only [List.getD_eq_getElem?_getD, List.getElem?_map]
  cases xs[i]? <;> rfl
theorem own_hasL {cl : Cell} {xs : List Int64} {n : Nat} (H : Has cl (xs.map Value.long) (.long 0)) (S : cl.slots.size = n) : ∀ i, i < n → cl.slots[i]? = some (.long (xs.getD i 0)) := by
  intro i hi
  rw [H i (by rw [S]; exact hi)]
  simp only [List.getD_eq_getElem?_getD, List.getElem?_map]
  cases xs[i]? <;> rfl
theorem own_ix0 {i n z : Int32} (h0 : 0 ≤ i.toInt) (h1 : i < n) (h2 : n.toInt ≤ z.toInt) : ¬ i < 0 ∧ i.toNatClampNeg < z.toNatClampNeg := by
  rw [Int32.lt_iff_toInt_lt] at h1
  refine ⟨?_, ?_⟩
  · rw [Int32.lt_iff_toInt_lt]; show ¬ _ < (0 : Int); omega
  · show i.toInt.toNat < z.toInt.toNat; omega
theorem own_sub {i n : Int32} (h0 : 0 ≤ i.toInt) (h1 : i.toInt ≤ n.toInt) : (n - i).toInt = n.toInt - i.toInt := by
  have := n.toInt_lt
  exact Jvm.Kit.i32_sub (by omega) (by omega)
/-- the place i + k where n - i is at least w and k < w -/
theorem own_ixk {i n z w k : Int32} (h0 : 0 ≤ i.toInt) (h1 : i < n) (h2 : n.toInt ≤ z.toInt) (h : ¬ (n - i) < w) (hk : 0 ≤ k.toInt ∧ k.toInt < w.toInt) : ¬ (i + k) < 0 ∧ (i + k).toNatClampNeg < z.toNatClampNeg := by
  rw [Int32.lt_iff_toInt_lt] at h1 h
  rw [own_sub h0 (by omega)] at h
  have hz := z.toInt_lt
  have e : (i + k).toInt = i.toInt + k.toInt := Jvm.Kit.i32_add (by omega) (by omega)
  refine ⟨?_, ?_⟩
  · rw [Int32.lt_iff_toInt_lt, e]; show ¬ _ < (0 : Int); omega
  · show (i + k).toInt.toNat < z.toInt.toNat; rw [e]; omega
theorem own_ixn {i n z w k : Int32} (h0 : 0 ≤ i.toInt) (h1 : i < n) (h2 : n.toInt ≤ z.toInt) (h : w < (n - i)) (hk : 0 ≤ k.toInt ∧ k.toInt ≤ w.toInt) : ¬ (i + k) < 0 ∧ (i + k).toNatClampNeg < z.toNatClampNeg := by
  rw [Int32.lt_iff_toInt_lt] at h1 h
  rw [own_sub h0 (by omega)] at h
  have hz := z.toInt_lt
  have e : (i + k).toInt = i.toInt + k.toInt := Jvm.Kit.i32_add (by omega) (by omega)
  refine ⟨?_, ?_⟩
  · rw [Int32.lt_iff_toInt_lt, e]; show ¬ _ < (0 : Int); omega
  · show (i + k).toInt.toNat < z.toInt.toNat; rw [e]; omega
theorem own_a1 {i n : Int32} (h0 : 0 ≤ i.toInt) (h : i < n) : (i + (1 : Int32)).toInt = i.toInt + 1 ∧ i.toInt + 1 ≤ n.toInt := by
  rw [Int32.lt_iff_toInt_lt] at h
  have hz := n.toInt_lt
  have e1 : (1 : Int32).toInt = 1 := rfl
  refine ⟨?_, by omega⟩
  rw [Jvm.Kit.i32_add (by rw [e1]; omega) (by rw [e1]; omega), e1]
theorem own_an {i n w k : Int32} (h0 : 0 ≤ i.toInt) (h1 : i < n) (h : w < (n - i)) (hk : 1 ≤ k.toInt ∧ k.toInt ≤ w.toInt + 1) : (i + k).toInt = i.toInt + k.toInt ∧ i.toInt + k.toInt ≤ n.toInt := by
  rw [Int32.lt_iff_toInt_lt] at h1 h
  rw [own_sub h0 (by omega)] at h
  have hz := n.toInt_lt
  exact ⟨Jvm.Kit.i32_add (by omega) (by omega), by omega⟩
theorem own_nn {i : Int32} (h : ¬ i < (0 : Int32)) : 0 ≤ i.toInt := by
  rw [Int32.lt_iff_toInt_lt] at h
  have e : (0 : Int32).toInt = 0 := rfl
  omega
def own_cl_205_4 (f_b1 : Nat → Int32) (u1 : Int32) (u2 : Int32) (j205_4_3 : Int32) (j205_4_5 : Int32) : Int32 :=
  if j205_4_5 < (65536 : Int32) then
    (0 : Int32)
  else
    if (1114111 : Int32) < j205_4_5 then
      (0 : Int32)
    else
      if j205_4_5 < (55296 : Int32) then
        (4 : Int32)
      else
        if (57343 : Int32) < j205_4_5 then
          (4 : Int32)
        else
          (0 : Int32)
def own_cl_205_3 (f_b1 : Nat → Int32) (u1 : Int32) (u2 : Int32) (j205_3_3 : Int32) (j205_3_5 : Int32) : Int32 :=
  if j205_3_5 < (2048 : Int32) then
    (0 : Int32)
  else
    if (1114111 : Int32) < j205_3_5 then
      (0 : Int32)
    else
      if j205_3_5 < (55296 : Int32) then
        (3 : Int32)
      else
        if (57343 : Int32) < j205_3_5 then
          (3 : Int32)
        else
          (0 : Int32)
def own_cl_205_2 (f_b1 : Nat → Int32) (u1 : Int32) (u2 : Int32) (j205_2_3 : Int32) (j205_2_5 : Int32) : Int32 :=
  if j205_2_5 < (128 : Int32) then
    (0 : Int32)
  else
    if (1114111 : Int32) < j205_2_5 then
      (0 : Int32)
    else
      if j205_2_5 < (55296 : Int32) then
        (2 : Int32)
      else
        if (57343 : Int32) < j205_2_5 then
          (2 : Int32)
        else
          (0 : Int32)
def own_cl_166_4 (f_b1 : Nat → Int32) (u1 : Int32) (u2 : Int32) (j166_4_3 : Int32) (j166_4_5 : Int32) : Int32 :=
  if ((f_b1 (u1 + (3 : Int32)).toNatClampNeg) &&& (192 : Int32)) = (128 : Int32) then
    own_cl_205_4 f_b1 u1 u2 j166_4_3 ((j166_4_5 <<< ((6 : Int32) &&& 31)) ||| ((f_b1 (u1 + (3 : Int32)).toNatClampNeg) &&& (63 : Int32)))
  else
    (0 : Int32)
def own_cl_166_3 (f_b1 : Nat → Int32) (u1 : Int32) (u2 : Int32) (j166_3_3 : Int32) (j166_3_5 : Int32) : Int32 :=
  own_cl_205_3 f_b1 u1 u2 j166_3_3 j166_3_5
def own_cl_166_2 (f_b1 : Nat → Int32) (u1 : Int32) (u2 : Int32) (j166_2_3 : Int32) (j166_2_5 : Int32) : Int32 :=
  own_cl_205_2 f_b1 u1 u2 j166_2_3 j166_2_5
def own_cl_127_4 (f_b1 : Nat → Int32) (u1 : Int32) (u2 : Int32) (j127_4_3 : Int32) (j127_4_5 : Int32) : Int32 :=
  if ((f_b1 (u1 + (2 : Int32)).toNatClampNeg) &&& (192 : Int32)) = (128 : Int32) then
    own_cl_166_4 f_b1 u1 u2 j127_4_3 ((j127_4_5 <<< ((6 : Int32) &&& 31)) ||| ((f_b1 (u1 + (2 : Int32)).toNatClampNeg) &&& (63 : Int32)))
  else
    (0 : Int32)
def own_cl_127_3 (f_b1 : Nat → Int32) (u1 : Int32) (u2 : Int32) (j127_3_3 : Int32) (j127_3_5 : Int32) : Int32 :=
  if ((f_b1 (u1 + (2 : Int32)).toNatClampNeg) &&& (192 : Int32)) = (128 : Int32) then
    own_cl_166_3 f_b1 u1 u2 j127_3_3 ((j127_3_5 <<< ((6 : Int32) &&& 31)) ||| ((f_b1 (u1 + (2 : Int32)).toNatClampNeg) &&& (63 : Int32)))
  else
    (0 : Int32)
def own_cl_127_2 (f_b1 : Nat → Int32) (u1 : Int32) (u2 : Int32) (j127_2_3 : Int32) (j127_2_5 : Int32) : Int32 :=
  own_cl_166_2 f_b1 u1 u2 j127_2_3 j127_2_5
def own_cl_84_4 (f_b1 : Nat → Int32) (u1 : Int32) (u2 : Int32) (j84_4_3 : Int32) (j84_4_5 : Int32) : Int32 :=
  if (u2 - u1) < (4 : Int32) then
    (0 : Int32)
  else
    if ((f_b1 (u1 + (1 : Int32)).toNatClampNeg) &&& (192 : Int32)) = (128 : Int32) then
      own_cl_127_4 f_b1 u1 u2 j84_4_3 ((j84_4_5 <<< ((6 : Int32) &&& 31)) ||| ((f_b1 (u1 + (1 : Int32)).toNatClampNeg) &&& (63 : Int32)))
    else
      (0 : Int32)
def own_cl_84_3 (f_b1 : Nat → Int32) (u1 : Int32) (u2 : Int32) (j84_3_3 : Int32) (j84_3_5 : Int32) : Int32 :=
  if (u2 - u1) < (3 : Int32) then
    (0 : Int32)
  else
    if ((f_b1 (u1 + (1 : Int32)).toNatClampNeg) &&& (192 : Int32)) = (128 : Int32) then
      own_cl_127_3 f_b1 u1 u2 j84_3_3 ((j84_3_5 <<< ((6 : Int32) &&& 31)) ||| ((f_b1 (u1 + (1 : Int32)).toNatClampNeg) &&& (63 : Int32)))
    else
      (0 : Int32)
def own_cl_84_2 (f_b1 : Nat → Int32) (u1 : Int32) (u2 : Int32) (j84_2_3 : Int32) (j84_2_5 : Int32) : Int32 :=
  if (u2 - u1) < (2 : Int32) then
    (0 : Int32)
  else
    if ((f_b1 (u1 + (1 : Int32)).toNatClampNeg) &&& (192 : Int32)) = (128 : Int32) then
      own_cl_127_2 f_b1 u1 u2 j84_2_3 ((j84_2_5 <<< ((6 : Int32) &&& 31)) ||| ((f_b1 (u1 + (1 : Int32)).toNatClampNeg) &&& (63 : Int32)))
    else
      (0 : Int32)
def own_cl_4 (f_b1 : Nat → Int32) (u1 : Int32) (u2 : Int32) (j4_3 : Int32) : Int32 :=
  if j4_3 < (128 : Int32) then
    (1 : Int32)
  else
    if (j4_3 &&& (224 : Int32)) = (192 : Int32) then
      own_cl_84_2 f_b1 u1 u2 j4_3 (j4_3 &&& (31 : Int32))
    else
      if (j4_3 &&& (240 : Int32)) = (224 : Int32) then
        own_cl_84_3 f_b1 u1 u2 j4_3 (j4_3 &&& (15 : Int32))
      else
        if (j4_3 &&& (248 : Int32)) = (240 : Int32) then
          own_cl_84_4 f_b1 u1 u2 j4_3 (j4_3 &&& (7 : Int32))
        else
          (0 : Int32)
def own_cl_0 (f_b1 : Nat → Int32) (u1 : Int32) (u2 : Int32)  : Int32 :=
  own_cl_4 f_b1 u1 u2 (f_b1 u1.toNatClampNeg)
theorem d1_0 : decode method_5_code 0 = .ok (.aload_n 0, 1) := by decide +kernel
theorem d1_1 : decode method_5_code 1 = .ok (.iload_n 1, 1) := by decide +kernel
theorem d1_2 : decode method_5_code 2 = .ok (.iaload, 1) := by decide +kernel
theorem d1_3 : decode method_5_code 3 = .ok (.istore_n 3, 1) := by decide +kernel
theorem d1_4 : decode method_5_code 4 = .ok (.iload_n 3, 1) := by decide +kernel
theorem d1_5 : decode method_5_code 5 = .ok (.sipush 128, 3) := by decide +kernel
theorem d1_8 : decode method_5_code 8 = .ok (.if_icmp .ge 5, 3) := by decide +kernel
theorem d1_11 : decode method_5_code 11 = .ok (.iconst 1, 1) := by decide +kernel
theorem d1_12 : decode method_5_code 12 = .ok (.ireturn, 1) := by decide +kernel
theorem d1_13 : decode method_5_code 13 = .ok (.iload_n 3, 1) := by decide +kernel
theorem d1_14 : decode method_5_code 14 = .ok (.sipush 224, 3) := by decide +kernel
theorem d1_17 : decode method_5_code 17 = .ok (.iand, 1) := by decide +kernel
theorem d1_18 : decode method_5_code 18 = .ok (.sipush 192, 3) := by decide +kernel
theorem d1_21 : decode method_5_code 21 = .ok (.if_icmp .ne 15, 3) := by decide +kernel
theorem d1_24 : decode method_5_code 24 = .ok (.iconst 2, 1) := by decide +kernel
theorem d1_25 : decode method_5_code 25 = .ok (.istore 4, 2) := by decide +kernel
theorem d1_27 : decode method_5_code 27 = .ok (.iload_n 3, 1) := by decide +kernel
theorem d1_28 : decode method_5_code 28 = .ok (.bipush 31, 2) := by decide +kernel
theorem d1_30 : decode method_5_code 30 = .ok (.iand, 1) := by decide +kernel
theorem d1_31 : decode method_5_code 31 = .ok (.istore 5, 2) := by decide +kernel
theorem d1_33 : decode method_5_code 33 = .ok (.goto 51, 3) := by decide +kernel
theorem d1_36 : decode method_5_code 36 = .ok (.iload_n 3, 1) := by decide +kernel
theorem d1_37 : decode method_5_code 37 = .ok (.sipush 240, 3) := by decide +kernel
theorem d1_40 : decode method_5_code 40 = .ok (.iand, 1) := by decide +kernel
theorem d1_41 : decode method_5_code 41 = .ok (.sipush 224, 3) := by decide +kernel
theorem d1_44 : decode method_5_code 44 = .ok (.if_icmp .ne 15, 3) := by decide +kernel
theorem d1_47 : decode method_5_code 47 = .ok (.iconst 3, 1) := by decide +kernel
theorem d1_48 : decode method_5_code 48 = .ok (.istore 4, 2) := by decide +kernel
theorem d1_50 : decode method_5_code 50 = .ok (.iload_n 3, 1) := by decide +kernel
theorem d1_51 : decode method_5_code 51 = .ok (.bipush 15, 2) := by decide +kernel
theorem d1_53 : decode method_5_code 53 = .ok (.iand, 1) := by decide +kernel
theorem d1_54 : decode method_5_code 54 = .ok (.istore 5, 2) := by decide +kernel
theorem d1_56 : decode method_5_code 56 = .ok (.goto 28, 3) := by decide +kernel
theorem d1_59 : decode method_5_code 59 = .ok (.iload_n 3, 1) := by decide +kernel
theorem d1_60 : decode method_5_code 60 = .ok (.sipush 248, 3) := by decide +kernel
theorem d1_63 : decode method_5_code 63 = .ok (.iand, 1) := by decide +kernel
theorem d1_64 : decode method_5_code 64 = .ok (.sipush 240, 3) := by decide +kernel
theorem d1_67 : decode method_5_code 67 = .ok (.if_icmp .ne 15, 3) := by decide +kernel
theorem d1_70 : decode method_5_code 70 = .ok (.iconst 4, 1) := by decide +kernel
theorem d1_71 : decode method_5_code 71 = .ok (.istore 4, 2) := by decide +kernel
theorem d1_73 : decode method_5_code 73 = .ok (.iload_n 3, 1) := by decide +kernel
theorem d1_74 : decode method_5_code 74 = .ok (.bipush 7, 2) := by decide +kernel
theorem d1_76 : decode method_5_code 76 = .ok (.iand, 1) := by decide +kernel
theorem d1_77 : decode method_5_code 77 = .ok (.istore 5, 2) := by decide +kernel
theorem d1_79 : decode method_5_code 79 = .ok (.goto 5, 3) := by decide +kernel
theorem d1_82 : decode method_5_code 82 = .ok (.iconst 0, 1) := by decide +kernel
theorem d1_83 : decode method_5_code 83 = .ok (.ireturn, 1) := by decide +kernel
theorem d1_84 : decode method_5_code 84 = .ok (.iload_n 2, 1) := by decide +kernel
theorem d1_85 : decode method_5_code 85 = .ok (.iload_n 1, 1) := by decide +kernel
theorem d1_86 : decode method_5_code 86 = .ok (.isub, 1) := by decide +kernel
theorem d1_87 : decode method_5_code 87 = .ok (.iload 4, 2) := by decide +kernel
theorem d1_89 : decode method_5_code 89 = .ok (.if_icmp .ge 5, 3) := by decide +kernel
theorem d1_92 : decode method_5_code 92 = .ok (.iconst 0, 1) := by decide +kernel
theorem d1_93 : decode method_5_code 93 = .ok (.ireturn, 1) := by decide +kernel
theorem d1_94 : decode method_5_code 94 = .ok (.aload_n 0, 1) := by decide +kernel
theorem d1_95 : decode method_5_code 95 = .ok (.iload_n 1, 1) := by decide +kernel
theorem d1_96 : decode method_5_code 96 = .ok (.iconst 1, 1) := by decide +kernel
theorem d1_97 : decode method_5_code 97 = .ok (.iadd, 1) := by decide +kernel
theorem d1_98 : decode method_5_code 98 = .ok (.iaload, 1) := by decide +kernel
theorem d1_99 : decode method_5_code 99 = .ok (.sipush 192, 3) := by decide +kernel
theorem d1_102 : decode method_5_code 102 = .ok (.iand, 1) := by decide +kernel
theorem d1_103 : decode method_5_code 103 = .ok (.sipush 128, 3) := by decide +kernel
theorem d1_106 : decode method_5_code 106 = .ok (.if_icmp .eq 5, 3) := by decide +kernel
theorem d1_109 : decode method_5_code 109 = .ok (.iconst 0, 1) := by decide +kernel
theorem d1_110 : decode method_5_code 110 = .ok (.ireturn, 1) := by decide +kernel
theorem d1_111 : decode method_5_code 111 = .ok (.iload 5, 2) := by decide +kernel
theorem d1_113 : decode method_5_code 113 = .ok (.bipush 6, 2) := by decide +kernel
theorem d1_115 : decode method_5_code 115 = .ok (.ishl, 1) := by decide +kernel
theorem d1_116 : decode method_5_code 116 = .ok (.aload_n 0, 1) := by decide +kernel
theorem d1_117 : decode method_5_code 117 = .ok (.iload_n 1, 1) := by decide +kernel
theorem d1_118 : decode method_5_code 118 = .ok (.iconst 1, 1) := by decide +kernel
theorem d1_119 : decode method_5_code 119 = .ok (.iadd, 1) := by decide +kernel
theorem d1_120 : decode method_5_code 120 = .ok (.iaload, 1) := by decide +kernel
theorem d1_121 : decode method_5_code 121 = .ok (.bipush 63, 2) := by decide +kernel
theorem d1_123 : decode method_5_code 123 = .ok (.iand, 1) := by decide +kernel
theorem d1_124 : decode method_5_code 124 = .ok (.ior, 1) := by decide +kernel
theorem d1_125 : decode method_5_code 125 = .ok (.istore 5, 2) := by decide +kernel
theorem d1_127 : decode method_5_code 127 = .ok (.iload 4, 2) := by decide +kernel
theorem d1_129 : decode method_5_code 129 = .ok (.iconst 3, 1) := by decide +kernel
theorem d1_130 : decode method_5_code 130 = .ok (.if_icmp .lt 36, 3) := by decide +kernel
theorem d1_133 : decode method_5_code 133 = .ok (.aload_n 0, 1) := by decide +kernel
theorem d1_134 : decode method_5_code 134 = .ok (.iload_n 1, 1) := by decide +kernel
theorem d1_135 : decode method_5_code 135 = .ok (.iconst 2, 1) := by decide +kernel
theorem d1_136 : decode method_5_code 136 = .ok (.iadd, 1) := by decide +kernel
theorem d1_137 : decode method_5_code 137 = .ok (.iaload, 1) := by decide +kernel
theorem d1_138 : decode method_5_code 138 = .ok (.sipush 192, 3) := by decide +kernel
theorem d1_141 : decode method_5_code 141 = .ok (.iand, 1) := by decide +kernel
theorem d1_142 : decode method_5_code 142 = .ok (.sipush 128, 3) := by decide +kernel
theorem d1_145 : decode method_5_code 145 = .ok (.if_icmp .eq 5, 3) := by decide +kernel
theorem d1_148 : decode method_5_code 148 = .ok (.iconst 0, 1) := by decide +kernel
theorem d1_149 : decode method_5_code 149 = .ok (.ireturn, 1) := by decide +kernel
theorem d1_150 : decode method_5_code 150 = .ok (.iload 5, 2) := by decide +kernel
theorem d1_152 : decode method_5_code 152 = .ok (.bipush 6, 2) := by decide +kernel
theorem d1_154 : decode method_5_code 154 = .ok (.ishl, 1) := by decide +kernel
theorem d1_155 : decode method_5_code 155 = .ok (.aload_n 0, 1) := by decide +kernel
theorem d1_156 : decode method_5_code 156 = .ok (.iload_n 1, 1) := by decide +kernel
theorem d1_157 : decode method_5_code 157 = .ok (.iconst 2, 1) := by decide +kernel
theorem d1_158 : decode method_5_code 158 = .ok (.iadd, 1) := by decide +kernel
theorem d1_159 : decode method_5_code 159 = .ok (.iaload, 1) := by decide +kernel
theorem d1_160 : decode method_5_code 160 = .ok (.bipush 63, 2) := by decide +kernel
theorem d1_162 : decode method_5_code 162 = .ok (.iand, 1) := by decide +kernel
theorem d1_163 : decode method_5_code 163 = .ok (.ior, 1) := by decide +kernel
theorem d1_164 : decode method_5_code 164 = .ok (.istore 5, 2) := by decide +kernel
theorem d1_166 : decode method_5_code 166 = .ok (.iload 4, 2) := by decide +kernel
theorem d1_168 : decode method_5_code 168 = .ok (.iconst 4, 1) := by decide +kernel
theorem d1_169 : decode method_5_code 169 = .ok (.if_icmp .ne 36, 3) := by decide +kernel
theorem d1_172 : decode method_5_code 172 = .ok (.aload_n 0, 1) := by decide +kernel
theorem d1_173 : decode method_5_code 173 = .ok (.iload_n 1, 1) := by decide +kernel
theorem d1_174 : decode method_5_code 174 = .ok (.iconst 3, 1) := by decide +kernel
theorem d1_175 : decode method_5_code 175 = .ok (.iadd, 1) := by decide +kernel
theorem d1_176 : decode method_5_code 176 = .ok (.iaload, 1) := by decide +kernel
theorem d1_177 : decode method_5_code 177 = .ok (.sipush 192, 3) := by decide +kernel
theorem d1_180 : decode method_5_code 180 = .ok (.iand, 1) := by decide +kernel
theorem d1_181 : decode method_5_code 181 = .ok (.sipush 128, 3) := by decide +kernel
theorem d1_184 : decode method_5_code 184 = .ok (.if_icmp .eq 5, 3) := by decide +kernel
theorem d1_187 : decode method_5_code 187 = .ok (.iconst 0, 1) := by decide +kernel
theorem d1_188 : decode method_5_code 188 = .ok (.ireturn, 1) := by decide +kernel
theorem d1_189 : decode method_5_code 189 = .ok (.iload 5, 2) := by decide +kernel
theorem d1_191 : decode method_5_code 191 = .ok (.bipush 6, 2) := by decide +kernel
theorem d1_193 : decode method_5_code 193 = .ok (.ishl, 1) := by decide +kernel
theorem d1_194 : decode method_5_code 194 = .ok (.aload_n 0, 1) := by decide +kernel
theorem d1_195 : decode method_5_code 195 = .ok (.iload_n 1, 1) := by decide +kernel
theorem d1_196 : decode method_5_code 196 = .ok (.iconst 3, 1) := by decide +kernel
theorem d1_197 : decode method_5_code 197 = .ok (.iadd, 1) := by decide +kernel
theorem d1_198 : decode method_5_code 198 = .ok (.iaload, 1) := by decide +kernel
theorem d1_199 : decode method_5_code 199 = .ok (.bipush 63, 2) := by decide +kernel
theorem d1_201 : decode method_5_code 201 = .ok (.iand, 1) := by decide +kernel
theorem d1_202 : decode method_5_code 202 = .ok (.ior, 1) := by decide +kernel
theorem d1_203 : decode method_5_code 203 = .ok (.istore 5, 2) := by decide +kernel
theorem d1_205 : decode method_5_code 205 = .ok (.iload 4, 2) := by decide +kernel
theorem d1_207 : decode method_5_code 207 = .ok (.iconst 2, 1) := by decide +kernel
theorem d1_208 : decode method_5_code 208 = .ok (.if_icmp .ne 9, 3) := by decide +kernel
theorem d1_211 : decode method_5_code 211 = .ok (.sipush 128, 3) := by decide +kernel
theorem d1_214 : decode method_5_code 214 = .ok (.goto 17, 3) := by decide +kernel
theorem d1_217 : decode method_5_code 217 = .ok (.iload 4, 2) := by decide +kernel
theorem d1_219 : decode method_5_code 219 = .ok (.iconst 3, 1) := by decide +kernel
theorem d1_220 : decode method_5_code 220 = .ok (.if_icmp .ne 9, 3) := by decide +kernel
theorem d1_223 : decode method_5_code 223 = .ok (.sipush 2048, 3) := by decide +kernel
theorem d1_226 : decode method_5_code 226 = .ok (.goto 5, 3) := by decide +kernel
theorem d1_229 : decode method_5_code 229 = .ok (.ldc 27, 2) := by decide +kernel
theorem d1_231 : decode method_5_code 231 = .ok (.istore 6, 2) := by decide +kernel
theorem d1_233 : decode method_5_code 233 = .ok (.iload 5, 2) := by decide +kernel
theorem d1_235 : decode method_5_code 235 = .ok (.iload 6, 2) := by decide +kernel
theorem d1_237 : decode method_5_code 237 = .ok (.if_icmp .lt 24, 3) := by decide +kernel
theorem d1_240 : decode method_5_code 240 = .ok (.iload 5, 2) := by decide +kernel
theorem d1_242 : decode method_5_code 242 = .ok (.ldc 28, 2) := by decide +kernel
theorem d1_244 : decode method_5_code 244 = .ok (.if_icmp .gt 17, 3) := by decide +kernel
theorem d1_247 : decode method_5_code 247 = .ok (.iload 5, 2) := by decide +kernel
theorem d1_249 : decode method_5_code 249 = .ok (.ldc 29, 2) := by decide +kernel
theorem d1_251 : decode method_5_code 251 = .ok (.if_icmp .lt 12, 3) := by decide +kernel
theorem d1_254 : decode method_5_code 254 = .ok (.iload 5, 2) := by decide +kernel
theorem d1_256 : decode method_5_code 256 = .ok (.ldc 30, 2) := by decide +kernel
theorem d1_258 : decode method_5_code 258 = .ok (.if_icmp .gt 5, 3) := by decide +kernel
theorem d1_261 : decode method_5_code 261 = .ok (.iconst 0, 1) := by decide +kernel
theorem d1_262 : decode method_5_code 262 = .ok (.ireturn, 1) := by decide +kernel
theorem d1_263 : decode method_5_code 263 = .ok (.iload 4, 2) := by decide +kernel
theorem d1_265 : decode method_5_code 265 = .ok (.ireturn, 1) := by decide +kernel
theorem pn_1 : plainName "com/example/fieldbook/fieldbook/StrictTextIsUtf8PinLaw" = true := by first | (simp [plainName, overriddenIn]; done) | decide +kernel
theorem ef_1 (m : MethodId) (x0 : Addr) (x1 : Int32) (x2 : Int32) : entryFrame m #[(.ref x0), (.int x1), (.int x2)] 7 = mkF m 0 #[.val (.ref x0), .val (.int x1), .val (.int x2), .unset, .unset, .unset, .unset] [] := by first | (simp [entryFrame, mkF, argsToLocals, Value.category]; done) | rfl
def Q1 (b1 : Addr) (cl_b1 : Cell) (f_b1 : Nat → Int32) (z_b1 : Int32) (u1 : Int32) (u2 : Int32) (h0 : Heap) (n0 : Nat) (v : Option Value) (h : Heap) (L : List Loc) : Prop := v = some (.int (own_cl_0 f_b1 u1 u2)) ∧ Fr n0 L ∧ h = h0
set_option maxRecDepth 65536 in
set_option maxHeartbeats 40000000 in
theorem rm1 (l : Launch) (Z : State) (a0 : Array Value) (hw : ∀ d ∈ tables_1, d.before a0 Z = true) (ws : List Jvm.Cond) (b1 : Addr) (cl_b1 : Cell) (f_b1 : Nat → Int32) (z_b1 : Int32) (u1 : Int32) (u2 : Int32) (h0 : Heap) (n0 : Nat) (Z0 : n0 ≤ h0.size) (Ar_b1 : Arr Z h0 b1 cl_b1 .int) (S_b1 : cl_b1.slots.size = z_b1.toNatClampNeg) (M_b1 : ¬ z_b1 < 0) (H_b1 : ∀ i, i < z_b1.toNatClampNeg → cl_b1.slots[i]? = some (.int (f_b1 i))) (i0 : 0 ≤ u1.toInt) (i1 : u1 < u2) (i2 : u2.toInt ≤ z_b1.toInt) :
    MetFree l (⟨"com/example/fieldbook/fieldbook/StrictTextIsUtf8PinLaw", "charLen", "([III)I"⟩ : MethodName) (head1 (Jvm.Cond.code (⟨"com/example/fieldbook/fieldbook/StrictTextIsUtf8PinLaw", "charLen", "([III)I"⟩ : MethodName) method_5_code 7 (some .int) :: ws) ({ frames := 0, cells := 0, slots := 0, locals := 0 } : Room)) (fun a U => a = #[(.ref b1), (.int u1), (.int u2)] ∧ Z.Warmed39 U.vm ∧ U.heap = h0) (fun _ _ _ _ _ => True) (fun _ U o U' => ∃ v L, o = .returned v ∧ Q1 b1 cl_b1 f_b1 z_b1 u1 u2 h0 n0 v U'.heap L ∧ FrameEnd U o U' L ({ frames := 0, cells := 0, slots := 0, locals := 0 } : Room).cells ({ frames := 0, cells := 0, slots := 0, locals := 0 } : Room).slots) := by
  refine MetFree.of_bodySF (plainFor_of_name pn_1) hisR ?_
  intro p e s m args below meth c s₁ Bd hml0 hP hK
  obtain ⟨rfl, hZ, hh⟩ := hP
  have hx := Bd.exec
  have hby := Bd.bytes
  have hml : c.maxLocals = 7 := hml0
  have hown : s.vm.findClass "com/example/fieldbook/fieldbook/StrictTextIsUtf8PinLaw" = some m.cls := findClass_of_methodNamed Bd.named
  have hnm := (name_of_methodNamed Bd.named Bd.method).1
  have X0 : Stand p l e ({ frames := 0, cells := 0, slots := 0, locals := 0 } : Room) s m #[(.ref b1), (.int u1), (.int u2)] below meth c s₁ [] 0 0 := Stand.of_body Bd
  have e0 : s₁.heap = h0 := by rw [← hh, Bd.state]; rfl
  have N0 := Fr.nil n0
  show own_Go p e below s (Q1 b1 cl_b1 f_b1 z_b1 u1 u2 h0 n0) ({ frames := 0, cells := 0, slots := 0, locals := 0 } : Room).cells ({ frames := 0, cells := 0, slots := 0, locals := 0 } : Room).slots (s₁.setTop (entryFrame m #[(.ref b1), (.int u1), (.int u2)] 7))
  refine own_go (b := s₁.setTop (mkF m 0 #[.val (.ref b1), .val (.int u1), .val (.int u2), .unset, .unset, .unset, .unset] [])) (fun t k => castTop (ef_1 m b1 u1 u2) k) ?_
  have J205_4 : ∀ (T : State) (lc : List Loc), Stand p l e ({ frames := 0, cells := 0, slots := 0, locals := 0 } : Room) s m #[(.ref b1), (.int u1), (.int u2)] below meth c T lc 0 0 → Fr n0 lc → T.heap = h0 → ∀ (j205_4_3 : Int32) (j205_4_5 : Int32), ¬ (u2 - u1) < (4 : Int32) → own_cl_0 f_b1 u1 u2 = own_cl_205_4 f_b1 u1 u2 j205_4_3 j205_4_5 → own_Go p e below s (Q1 b1 cl_b1 f_b1 z_b1 u1 u2 h0 n0) ({ frames := 0, cells := 0, slots := 0, locals := 0 } : Room).cells ({ frames := 0, cells := 0, slots := 0, locals := 0 } : Room).slots (T.setTop (mkF m 205 #[.val (.ref b1), .val (.int u1), .val (.int u2), .val (.int j205_4_3), .val (.int (4 : Int32)), .val (.int j205_4_5), .unset] [])) := by
    intro T lc X N eT j205_4_3 j205_4_5  hc89 hv
    have hc208_1 : ¬ ((4 : Int32) = (2 : Int32)) := (by decide)
    have hc220_2 : ¬ ((4 : Int32) = (3 : Int32)) := (by decide)
    refine own_go (b := T.setTop (mkF m 237 #[.val (.ref b1), .val (.int u1), .val (.int u2), .val (.int j205_4_3), .val (.int (4 : Int32)), .val (.int j205_4_5), .val (.int (65536 : Int32))] [(.int (65536 : Int32)), (.int j205_4_5)])) (fun t k => ?_) ?_
    · show Steps p.tables e below (T.setTop (mkF m 205 #[.val (.ref b1), .val (.int u1), .val (.int u2), .val (.int j205_4_3), .val (.int (4 : Int32)), .val (.int j205_4_5), .unset] [])) _
      refine XS.iload X.here hx rfl (hb hby d1_205) rfl ?_
      show Steps p.tables e below (T.setTop (mkF m 207 #[.val (.ref b1), .val (.int u1), .val (.int u2), .val (.int j205_4_3), .val (.int (4 : Int32)), .val (.int j205_4_5), .unset] [(.int (4 : Int32))])) _
      refine XS.iconst X.here hx rfl (hb hby d1_207) ?_
      show Steps p.tables e below (T.setTop (mkF m 208 #[.val (.ref b1), .val (.int u1), .val (.int u2), .val (.int j205_4_3), .val (.int (4 : Int32)), .val (.int j205_4_5), .unset] [(.int (2 : Int32)), (.int (4 : Int32))])) _
      refine XS.icmpYes X.here hx rfl (pc0 := 208) (pc' := 217) rfl (hb hby d1_208) rfl (feq hc208_1).2 (by decide) (by decide) ?_
      show Steps p.tables e below (T.setTop (mkF m 217 #[.val (.ref b1), .val (.int u1), .val (.int u2), .val (.int j205_4_3), .val (.int (4 : Int32)), .val (.int j205_4_5), .unset] [])) _
      refine XS.iload X.here hx rfl (hb hby d1_217) rfl ?_
      show Steps p.tables e below (T.setTop (mkF m 219 #[.val (.ref b1), .val (.int u1), .val (.int u2), .val (.int j205_4_3), .val (.int (4 : Int32)), .val (.int j205_4_5), .unset] [(.int (4 : Int32))])) _
      refine XS.iconst X.here hx rfl (hb hby d1_219) ?_
      show Steps p.tables e below (T.setTop (mkF m 220 #[.val (.ref b1), .val (.int u1), .val (.int u2), .val (.int j205_4_3), .val (.int (4 : Int32)), .val (.int j205_4_5), .unset] [(.int (3 : Int32)), (.int (4 : Int32))])) _
      refine XS.icmpYes X.here hx rfl (pc0 := 220) (pc' := 229) rfl (hb hby d1_220) rfl (feq hc220_2).2 (by decide) (by decide) ?_
      show Steps p.tables e below (T.setTop (mkF m 229 #[.val (.ref b1), .val (.int u1), .val (.int u2), .val (.int j205_4_3), .val (.int (4 : Int32)), .val (.int j205_4_5), .unset] [])) _
      refine X.ldcI hx hown (mvT hZ (hw _ (List.mem_of_getElem? (i := 19) rfl))) rfl (hb hby d1_229) ?_
      show Steps p.tables e below (T.setTop (mkF m 231 #[.val (.ref b1), .val (.int u1), .val (.int u2), .val (.int j205_4_3), .val (.int (4 : Int32)), .val (.int j205_4_5), .unset] [(.int (65536 : Int32))])) _
      refine XS.istore X.here hx rfl (hb hby d1_231) rfl (l' := #[.val (.ref b1), .val (.int u1), .val (.int u2), .val (.int j205_4_3), .val (.int (4 : Int32)), .val (.int j205_4_5), .val (.int (65536 : Int32))]) rfl ?_
      show Steps p.tables e below (T.setTop (mkF m 233 #[.val (.ref b1), .val (.int u1), .val (.int u2), .val (.int j205_4_3), .val (.int (4 : Int32)), .val (.int j205_4_5), .val (.int (65536 : Int32))] [])) _
      refine XS.iload X.here hx rfl (hb hby d1_233) rfl ?_
      show Steps p.tables e below (T.setTop (mkF m 235 #[.val (.ref b1), .val (.int u1), .val (.int u2), .val (.int j205_4_3), .val (.int (4 : Int32)), .val (.int j205_4_5), .val (.int (65536 : Int32))] [(.int j205_4_5)])) _
      refine XS.iload X.here hx rfl (hb hby d1_235) rfl ?_
      show Steps p.tables e below (T.setTop (mkF m 237 #[.val (.ref b1), .val (.int u1), .val (.int u2), .val (.int j205_4_3), .val (.int (4 : Int32)), .val (.int j205_4_5), .val (.int (65536 : Int32))] [(.int (65536 : Int32)), (.int j205_4_5)])) _
      exact k
    by_cases hc237 : j205_4_5 < (65536 : Int32)
    · refine own_end X Bd.notSynchronized (v := some (.int (0 : Int32))) (fun h => by rw [Bd.returns] at h; cases h) (fun fs hr => ?_) eT ?_ (by decide) (by decide)
      · show Steps p.tables e below (T.setTop (mkF m 237 #[.val (.ref b1), .val (.int u1), .val (.int u2), .val (.int j205_4_3), .val (.int (4 : Int32)), .val (.int j205_4_5), .val (.int (65536 : Int32))] [(.int (65536 : Int32)), (.int j205_4_5)])) _
        refine XS.icmpYes X.here hx rfl (pc0 := 237) (pc' := 261) rfl (hb hby d1_237) rfl (tlt hc237).1 (by decide) (by decide) ?_
        show Steps p.tables e below (T.setTop (mkF m 261 #[.val (.ref b1), .val (.int u1), .val (.int u2), .val (.int j205_4_3), .val (.int (4 : Int32)), .val (.int j205_4_5), .val (.int (65536 : Int32))] [])) _
        refine XS.iconst X.here hx rfl (hb hby d1_261) ?_
        show Steps p.tables e below (T.setTop (mkF m 262 #[.val (.ref b1), .val (.int u1), .val (.int u2), .val (.int j205_4_3), .val (.int (4 : Int32)), .val (.int j205_4_5), .val (.int (65536 : Int32))] [(.int (0 : Int32))])) _
        exact retI X hx Bd.returns (hb hby d1_262) hr
      · exact ⟨by rw [hv, own_cl_205_4, if_pos hc237], N, rfl⟩
    · refine own_go (b := T.setTop (mkF m 244 #[.val (.ref b1), .val (.int u1), .val (.int u2), .val (.int j205_4_3), .val (.int (4 : Int32)), .val (.int j205_4_5), .val (.int (65536 : Int32))] [(.int (1114111 : Int32)), (.int j205_4_5)])) (fun t k => ?_) ?_
      · show Steps p.tables e below (T.setTop (mkF m 237 #[.val (.ref b1), .val (.int u1), .val (.int u2), .val (.int j205_4_3), .val (.int (4 : Int32)), .val (.int j205_4_5), .val (.int (65536 : Int32))] [(.int (65536 : Int32)), (.int j205_4_5)])) _
        refine XS.icmpNo X.here hx rfl (hb hby d1_237) rfl (flt hc237).1 ?_
        show Steps p.tables e below (T.setTop (mkF m 240 #[.val (.ref b1), .val (.int u1), .val (.int u2), .val (.int j205_4_3), .val (.int (4 : Int32)), .val (.int j205_4_5), .val (.int (65536 : Int32))] [])) _
        refine XS.iload X.here hx rfl (hb hby d1_240) rfl ?_
        show Steps p.tables e below (T.setTop (mkF m 242 #[.val (.ref b1), .val (.int u1), .val (.int u2), .val (.int j205_4_3), .val (.int (4 : Int32)), .val (.int j205_4_5), .val (.int (65536 : Int32))] [(.int j205_4_5)])) _
        refine X.ldcI hx hown (mvT hZ (hw _ (List.mem_of_getElem? (i := 17) rfl))) rfl (hb hby d1_242) ?_
        show Steps p.tables e below (T.setTop (mkF m 244 #[.val (.ref b1), .val (.int u1), .val (.int u2), .val (.int j205_4_3), .val (.int (4 : Int32)), .val (.int j205_4_5), .val (.int (65536 : Int32))] [(.int (1114111 : Int32)), (.int j205_4_5)])) _
        exact k
      by_cases hc244 : (1114111 : Int32) < j205_4_5
      · refine own_end X Bd.notSynchronized (v := some (.int (0 : Int32))) (fun h => by rw [Bd.returns] at h; cases h) (fun fs hr => ?_) eT ?_ (by decide) (by decide)
        · show Steps p.tables e below (T.setTop (mkF m 244 #[.val (.ref b1), .val (.int u1), .val (.int u2), .val (.int j205_4_3), .val (.int (4 : Int32)), .val (.int j205_4_5), .val (.int (65536 : Int32))] [(.int (1114111 : Int32)), (.int j205_4_5)])) _
          refine XS.icmpYes X.here hx rfl (pc0 := 244) (pc' := 261) rfl (hb hby d1_244) rfl (tlt hc244).2.2.1 (by decide) (by decide) ?_
          show Steps p.tables e below (T.setTop (mkF m 261 #[.val (.ref b1), .val (.int u1), .val (.int u2), .val (.int j205_4_3), .val (.int (4 : Int32)), .val (.int j205_4_5), .val (.int (65536 : Int32))] [])) _
          refine XS.iconst X.here hx rfl (hb hby d1_261) ?_
          show Steps p.tables e below (T.setTop (mkF m 262 #[.val (.ref b1), .val (.int u1), .val (.int u2), .val (.int j205_4_3), .val (.int (4 : Int32)), .val (.int j205_4_5), .val (.int (65536 : Int32))] [(.int (0 : Int32))])) _
          exact retI X hx Bd.returns (hb hby d1_262) hr
        · exact ⟨by rw [hv, own_cl_205_4, if_neg hc237, if_pos hc244], N, rfl⟩
      · refine own_go (b := T.setTop (mkF m 251 #[.val (.ref b1), .val (.int u1), .val (.int u2), .val (.int j205_4_3), .val (.int (4 : Int32)), .val (.int j205_4_5), .val (.int (65536 : Int32))] [(.int (55296 : Int32)), (.int j205_4_5)])) (fun t k => ?_) ?_
        · show Steps p.tables e below (T.setTop (mkF m 244 #[.val (.ref b1), .val (.int u1), .val (.int u2), .val (.int j205_4_3), .val (.int (4 : Int32)), .val (.int j205_4_5), .val (.int (65536 : Int32))] [(.int (1114111 : Int32)), (.int j205_4_5)])) _
          refine XS.icmpNo X.here hx rfl (hb hby d1_244) rfl (flt hc244).2.2.1 ?_
          show Steps p.tables e below (T.setTop (mkF m 247 #[.val (.ref b1), .val (.int u1), .val (.int u2), .val (.int j205_4_3), .val (.int (4 : Int32)), .val (.int j205_4_5), .val (.int (65536 : Int32))] [])) _
          refine XS.iload X.here hx rfl (hb hby d1_247) rfl ?_
          show Steps p.tables e below (T.setTop (mkF m 249 #[.val (.ref b1), .val (.int u1), .val (.int u2), .val (.int j205_4_3), .val (.int (4 : Int32)), .val (.int j205_4_5), .val (.int (65536 : Int32))] [(.int j205_4_5)])) _
          refine X.ldcI hx hown (mvT hZ (hw _ (List.mem_of_getElem? (i := 18) rfl))) rfl (hb hby d1_249) ?_
          show Steps p.tables e below (T.setTop (mkF m 251 #[.val (.ref b1), .val (.int u1), .val (.int u2), .val (.int j205_4_3), .val (.int (4 : Int32)), .val (.int j205_4_5), .val (.int (65536 : Int32))] [(.int (55296 : Int32)), (.int j205_4_5)])) _
          exact k
        by_cases hc251 : j205_4_5 < (55296 : Int32)
        · refine own_end X Bd.notSynchronized (v := some (.int (4 : Int32))) (fun h => by rw [Bd.returns] at h; cases h) (fun fs hr => ?_) eT ?_ (by decide) (by decide)
          · show Steps p.tables e below (T.setTop (mkF m 251 #[.val (.ref b1), .val (.int u1), .val (.int u2), .val (.int j205_4_3), .val (.int (4 : Int32)), .val (.int j205_4_5), .val (.int (65536 : Int32))] [(.int (55296 : Int32)), (.int j205_4_5)])) _
            refine XS.icmpYes X.here hx rfl (pc0 := 251) (pc' := 263) rfl (hb hby d1_251) rfl (tlt hc251).1 (by decide) (by decide) ?_
            show Steps p.tables e below (T.setTop (mkF m 263 #[.val (.ref b1), .val (.int u1), .val (.int u2), .val (.int j205_4_3), .val (.int (4 : Int32)), .val (.int j205_4_5), .val (.int (65536 : Int32))] [])) _
            refine XS.iload X.here hx rfl (hb hby d1_263) rfl ?_
            show Steps p.tables e below (T.setTop (mkF m 265 #[.val (.ref b1), .val (.int u1), .val (.int u2), .val (.int j205_4_3), .val (.int (4 : Int32)), .val (.int j205_4_5), .val (.int (65536 : Int32))] [(.int (4 : Int32))])) _
            exact retI X hx Bd.returns (hb hby d1_265) hr
          · exact ⟨by rw [hv, own_cl_205_4, if_neg hc237, if_neg hc244, if_pos hc251], N, rfl⟩
        · refine own_go (b := T.setTop (mkF m 258 #[.val (.ref b1), .val (.int u1), .val (.int u2), .val (.int j205_4_3), .val (.int (4 : Int32)), .val (.int j205_4_5), .val (.int (65536 : Int32))] [(.int (57343 : Int32)), (.int j205_4_5)])) (fun t k => ?_) ?_
          · show Steps p.tables e below (T.setTop (mkF m 251 #[.val (.ref b1), .val (.int u1), .val (.int u2), .val (.int j205_4_3), .val (.int (4 : Int32)), .val (.int j205_4_5), .val (.int (65536 : Int32))] [(.int (55296 : Int32)), (.int j205_4_5)])) _
            refine XS.icmpNo X.here hx rfl (hb hby d1_251) rfl (flt hc251).1 ?_
            show Steps p.tables e below (T.setTop (mkF m 254 #[.val (.ref b1), .val (.int u1), .val (.int u2), .val (.int j205_4_3), .val (.int (4 : Int32)), .val (.int j205_4_5), .val (.int (65536 : Int32))] [])) _
            refine XS.iload X.here hx rfl (hb hby d1_254) rfl ?_
            show Steps p.tables e below (T.setTop (mkF m 256 #[.val (.ref b1), .val (.int u1), .val (.int u2), .val (.int j205_4_3), .val (.int (4 : Int32)), .val (.int j205_4_5), .val (.int (65536 : Int32))] [(.int j205_4_5)])) _
            refine X.ldcI hx hown (mvT hZ (hw _ (List.mem_of_getElem? (i := 20) rfl))) rfl (hb hby d1_256) ?_
            show Steps p.tables e below (T.setTop (mkF m 258 #[.val (.ref b1), .val (.int u1), .val (.int u2), .val (.int j205_4_3), .val (.int (4 : Int32)), .val (.int j205_4_5), .val (.int (65536 : Int32))] [(.int (57343 : Int32)), (.int j205_4_5)])) _
            exact k
          by_cases hc258 : (57343 : Int32) < j205_4_5
          · refine own_end X Bd.notSynchronized (v := some (.int (4 : Int32))) (fun h => by rw [Bd.returns] at h; cases h) (fun fs hr => ?_) eT ?_ (by decide) (by decide)
            · show Steps p.tables e below (T.setTop (mkF m 258 #[.val (.ref b1), .val (.int u1), .val (.int u2), .val (.int j205_4_3), .val (.int (4 : Int32)), .val (.int j205_4_5), .val (.int (65536 : Int32))] [(.int (57343 : Int32)), (.int j205_4_5)])) _
              refine XS.icmpYes X.here hx rfl (pc0 := 258) (pc' := 263) rfl (hb hby d1_258) rfl (tlt hc258).2.2.1 (by decide) (by decide) ?_
              show Steps p.tables e below (T.setTop (mkF m 263 #[.val (.ref b1), .val (.int u1), .val (.int u2), .val (.int j205_4_3), .val (.int (4 : Int32)), .val (.int j205_4_5), .val (.int (65536 : Int32))] [])) _
              refine XS.iload X.here hx rfl (hb hby d1_263) rfl ?_
              show Steps p.tables e below (T.setTop (mkF m 265 #[.val (.ref b1), .val (.int u1), .val (.int u2), .val (.int j205_4_3), .val (.int (4 : Int32)), .val (.int j205_4_5), .val (.int (65536 : Int32))] [(.int (4 : Int32))])) _
              exact retI X hx Bd.returns (hb hby d1_265) hr
            · exact ⟨by rw [hv, own_cl_205_4, if_neg hc237, if_neg hc244, if_neg hc251, if_pos hc258], N, rfl⟩
          · refine own_end X Bd.notSynchronized (v := some (.int (0 : Int32))) (fun h => by rw [Bd.returns] at h; cases h) (fun fs hr => ?_) eT ?_ (by decide) (by decide)
            · show Steps p.tables e below (T.setTop (mkF m 258 #[.val (.ref b1), .val (.int u1), .val (.int u2), .val (.int j205_4_3), .val (.int (4 : Int32)), .val (.int j205_4_5), .val (.int (65536 : Int32))] [(.int (57343 : Int32)), (.int j205_4_5)])) _
              refine XS.icmpNo X.here hx rfl (hb hby d1_258) rfl (flt hc258).2.2.1 ?_
              show Steps p.tables e below (T.setTop (mkF m 261 #[.val (.ref b1), .val (.int u1), .val (.int u2), .val (.int j205_4_3), .val (.int (4 : Int32)), .val (.int j205_4_5), .val (.int (65536 : Int32))] [])) _
              refine XS.iconst X.here hx rfl (hb hby d1_261) ?_
              show Steps p.tables e below (T.setTop (mkF m 262 #[.val (.ref b1), .val (.int u1), .val (.int u2), .val (.int j205_4_3), .val (.int (4 : Int32)), .val (.int j205_4_5), .val (.int (65536 : Int32))] [(.int (0 : Int32))])) _
              exact retI X hx Bd.returns (hb hby d1_262) hr
            · exact ⟨by rw [hv, own_cl_205_4, if_neg hc237, if_neg hc244, if_neg hc251, if_neg hc258], N, rfl⟩
  have J205_3 : ∀ (T : State) (lc : List Loc), Stand p l e ({ frames := 0, cells := 0, slots := 0, locals := 0 } : Room) s m #[(.ref b1), (.int u1), (.int u2)] below meth c T lc 0 0 → Fr n0 lc → T.heap = h0 → ∀ (j205_3_3 : Int32) (j205_3_5 : Int32), ¬ (u2 - u1) < (3 : Int32) → own_cl_0 f_b1 u1 u2 = own_cl_205_3 f_b1 u1 u2 j205_3_3 j205_3_5 → own_Go p e below s (Q1 b1 cl_b1 f_b1 z_b1 u1 u2 h0 n0) ({ frames := 0, cells := 0, slots := 0, locals := 0 } : Room).cells ({ frames := 0, cells := 0, slots := 0, locals := 0 } : Room).slots (T.setTop (mkF m 205 #[.val (.ref b1), .val (.int u1), .val (.int u2), .val (.int j205_3_3), .val (.int (3 : Int32)), .val (.int j205_3_5), .unset] [])) := by
    intro T lc X N eT j205_3_3 j205_3_5  hc89 hv
    have hc208_3 : ¬ ((3 : Int32) = (2 : Int32)) := (by decide)
    have hc220_4 : (3 : Int32) = (3 : Int32) := (by decide)
    refine own_go (b := T.setTop (mkF m 237 #[.val (.ref b1), .val (.int u1), .val (.int u2), .val (.int j205_3_3), .val (.int (3 : Int32)), .val (.int j205_3_5), .val (.int (2048 : Int32))] [(.int (2048 : Int32)), (.int j205_3_5)])) (fun t k => ?_) ?_
    · show Steps p.tables e below (T.setTop (mkF m 205 #[.val (.ref b1), .val (.int u1), .val (.int u2), .val (.int j205_3_3), .val (.int (3 : Int32)), .val (.int j205_3_5), .unset] [])) _
      refine XS.iload X.here hx rfl (hb hby d1_205) rfl ?_
      show Steps p.tables e below (T.setTop (mkF m 207 #[.val (.ref b1), .val (.int u1), .val (.int u2), .val (.int j205_3_3), .val (.int (3 : Int32)), .val (.int j205_3_5), .unset] [(.int (3 : Int32))])) _
      refine XS.iconst X.here hx rfl (hb hby d1_207) ?_
      show Steps p.tables e below (T.setTop (mkF m 208 #[.val (.ref b1), .val (.int u1), .val (.int u2), .val (.int j205_3_3), .val (.int (3 : Int32)), .val (.int j205_3_5), .unset] [(.int (2 : Int32)), (.int (3 : Int32))])) _
      refine XS.icmpYes X.here hx rfl (pc0 := 208) (pc' := 217) rfl (hb hby d1_208) rfl (feq hc208_3).2 (by decide) (by decide) ?_
      show Steps p.tables e below (T.setTop (mkF m 217 #[.val (.ref b1), .val (.int u1), .val (.int u2), .val (.int j205_3_3), .val (.int (3 : Int32)), .val (.int j205_3_5), .unset] [])) _
      refine XS.iload X.here hx rfl (hb hby d1_217) rfl ?_
      show Steps p.tables e below (T.setTop (mkF m 219 #[.val (.ref b1), .val (.int u1), .val (.int u2), .val (.int j205_3_3), .val (.int (3 : Int32)), .val (.int j205_3_5), .unset] [(.int (3 : Int32))])) _
      refine XS.iconst X.here hx rfl (hb hby d1_219) ?_
      show Steps p.tables e below (T.setTop (mkF m 220 #[.val (.ref b1), .val (.int u1), .val (.int u2), .val (.int j205_3_3), .val (.int (3 : Int32)), .val (.int j205_3_5), .unset] [(.int (3 : Int32)), (.int (3 : Int32))])) _
      refine XS.icmpNo X.here hx rfl (hb hby d1_220) rfl (teq hc220_4).2 ?_
      show Steps p.tables e below (T.setTop (mkF m 223 #[.val (.ref b1), .val (.int u1), .val (.int u2), .val (.int j205_3_3), .val (.int (3 : Int32)), .val (.int j205_3_5), .unset] [])) _
      refine XS.sipush X.here hx rfl (hb hby d1_223) ?_
      show Steps p.tables e below (T.setTop (mkF m 226 #[.val (.ref b1), .val (.int u1), .val (.int u2), .val (.int j205_3_3), .val (.int (3 : Int32)), .val (.int j205_3_5), .unset] [(.int (2048 : Int32))])) _
      refine XS.goto X.here hx rfl (pc0 := 226) (pc' := 231) rfl (hb hby d1_226) (by decide) (by decide) ?_
      show Steps p.tables e below (T.setTop (mkF m 231 #[.val (.ref b1), .val (.int u1), .val (.int u2), .val (.int j205_3_3), .val (.int (3 : Int32)), .val (.int j205_3_5), .unset] [(.int (2048 : Int32))])) _
      refine XS.istore X.here hx rfl (hb hby d1_231) rfl (l' := #[.val (.ref b1), .val (.int u1), .val (.int u2), .val (.int j205_3_3), .val (.int (3 : Int32)), .val (.int j205_3_5), .val (.int (2048 : Int32))]) rfl ?_
      show Steps p.tables e below (T.setTop (mkF m 233 #[.val (.ref b1), .val (.int u1), .val (.int u2), .val (.int j205_3_3), .val (.int (3 : Int32)), .val (.int j205_3_5), .val (.int (2048 : Int32))] [])) _
      refine XS.iload X.here hx rfl (hb hby d1_233) rfl ?_
      show Steps p.tables e below (T.setTop (mkF m 235 #[.val (.ref b1), .val (.int u1), .val (.int u2), .val (.int j205_3_3), .val (.int (3 : Int32)), .val (.int j205_3_5), .val (.int (2048 : Int32))] [(.int j205_3_5)])) _
      refine XS.iload X.here hx rfl (hb hby d1_235) rfl ?_
      show Steps p.tables e below (T.setTop (mkF m 237 #[.val (.ref b1), .val (.int u1), .val (.int u2), .val (.int j205_3_3), .val (.int (3 : Int32)), .val (.int j205_3_5), .val (.int (2048 : Int32))] [(.int (2048 : Int32)), (.int j205_3_5)])) _
      exact k
    by_cases hc237 : j205_3_5 < (2048 : Int32)
    · refine own_end X Bd.notSynchronized (v := some (.int (0 : Int32))) (fun h => by rw [Bd.returns] at h; cases h) (fun fs hr => ?_) eT ?_ (by decide) (by decide)
      · show Steps p.tables e below (T.setTop (mkF m 237 #[.val (.ref b1), .val (.int u1), .val (.int u2), .val (.int j205_3_3), .val (.int (3 : Int32)), .val (.int j205_3_5), .val (.int (2048 : Int32))] [(.int (2048 : Int32)), (.int j205_3_5)])) _
        refine XS.icmpYes X.here hx rfl (pc0 := 237) (pc' := 261) rfl (hb hby d1_237) rfl (tlt hc237).1 (by decide) (by decide) ?_
        show Steps p.tables e below (T.setTop (mkF m 261 #[.val (.ref b1), .val (.int u1), .val (.int u2), .val (.int j205_3_3), .val (.int (3 : Int32)), .val (.int j205_3_5), .val (.int (2048 : Int32))] [])) _
        refine XS.iconst X.here hx rfl (hb hby d1_261) ?_
        show Steps p.tables e below (T.setTop (mkF m 262 #[.val (.ref b1), .val (.int u1), .val (.int u2), .val (.int j205_3_3), .val (.int (3 : Int32)), .val (.int j205_3_5), .val (.int (2048 : Int32))] [(.int (0 : Int32))])) _
        exact retI X hx Bd.returns (hb hby d1_262) hr
      · exact ⟨by rw [hv, own_cl_205_3, if_pos hc237], N, rfl⟩
    · refine own_go (b := T.setTop (mkF m 244 #[.val (.ref b1), .val (.int u1), .val (.int u2), .val (.int j205_3_3), .val (.int (3 : Int32)), .val (.int j205_3_5), .val (.int (2048 : Int32))] [(.int (1114111 : Int32)), (.int j205_3_5)])) (fun t k => ?_) ?_
      · show Steps p.tables e below (T.setTop (mkF m 237 #[.val (.ref b1), .val (.int u1), .val (.int u2), .val (.int j205_3_3), .val (.int (3 : Int32)), .val (.int j205_3_5), .val (.int (2048 : Int32))] [(.int (2048 : Int32)), (.int j205_3_5)])) _
        refine XS.icmpNo X.here hx rfl (hb hby d1_237) rfl (flt hc237).1 ?_
        show Steps p.tables e below (T.setTop (mkF m 240 #[.val (.ref b1), .val (.int u1), .val (.int u2), .val (.int j205_3_3), .val (.int (3 : Int32)), .val (.int j205_3_5), .val (.int (2048 : Int32))] [])) _
        refine XS.iload X.here hx rfl (hb hby d1_240) rfl ?_
        show Steps p.tables e below (T.setTop (mkF m 242 #[.val (.ref b1), .val (.int u1), .val (.int u2), .val (.int j205_3_3), .val (.int (3 : Int32)), .val (.int j205_3_5), .val (.int (2048 : Int32))] [(.int j205_3_5)])) _
        refine X.ldcI hx hown (mvT hZ (hw _ (List.mem_of_getElem? (i := 17) rfl))) rfl (hb hby d1_242) ?_
        show Steps p.tables e below (T.setTop (mkF m 244 #[.val (.ref b1), .val (.int u1), .val (.int u2), .val (.int j205_3_3), .val (.int (3 : Int32)), .val (.int j205_3_5), .val (.int (2048 : Int32))] [(.int (1114111 : Int32)), (.int j205_3_5)])) _
        exact k
      by_cases hc244 : (1114111 : Int32) < j205_3_5
      · refine own_end X Bd.notSynchronized (v := some (.int (0 : Int32))) (fun h => by rw [Bd.returns] at h; cases h) (fun fs hr => ?_) eT ?_ (by decide) (by decide)
        · show Steps p.tables e below (T.setTop (mkF m 244 #[.val (.ref b1), .val (.int u1), .val (.int u2), .val (.int j205_3_3), .val (.int (3 : Int32)), .val (.int j205_3_5), .val (.int (2048 : Int32))] [(.int (1114111 : Int32)), (.int j205_3_5)])) _
          refine XS.icmpYes X.here hx rfl (pc0 := 244) (pc' := 261) rfl (hb hby d1_244) rfl (tlt hc244).2.2.1 (by decide) (by decide) ?_
          show Steps p.tables e below (T.setTop (mkF m 261 #[.val (.ref b1), .val (.int u1), .val (.int u2), .val (.int j205_3_3), .val (.int (3 : Int32)), .val (.int j205_3_5), .val (.int (2048 : Int32))] [])) _
          refine XS.iconst X.here hx rfl (hb hby d1_261) ?_
          show Steps p.tables e below (T.setTop (mkF m 262 #[.val (.ref b1), .val (.int u1), .val (.int u2), .val (.int j205_3_3), .val (.int (3 : Int32)), .val (.int j205_3_5), .val (.int (2048 : Int32))] [(.int (0 : Int32))])) _
          exact retI X hx Bd.returns (hb hby d1_262) hr
        · exact ⟨by rw [hv, own_cl_205_3, if_neg hc237, if_pos hc244], N, rfl⟩
      · refine own_go (b := T.setTop (mkF m 251 #[.val (.ref b1), .val (.int u1), .val (.int u2), .val (.int j205_3_3), .val (.int (3 : Int32)), .val (.int j205_3_5), .val (.int (2048 : Int32))] [(.int (55296 : Int32)), (.int j205_3_5)])) (fun t k => ?_) ?_
        · show Steps p.tables e below (T.setTop (mkF m 244 #[.val (.ref b1), .val (.int u1), .val (.int u2), .val (.int j205_3_3), .val (.int (3 : Int32)), .val (.int j205_3_5), .val (.int (2048 : Int32))] [(.int (1114111 : Int32)), (.int j205_3_5)])) _
          refine XS.icmpNo X.here hx rfl (hb hby d1_244) rfl (flt hc244).2.2.1 ?_
          show Steps p.tables e below (T.setTop (mkF m 247 #[.val (.ref b1), .val (.int u1), .val (.int u2), .val (.int j205_3_3), .val (.int (3 : Int32)), .val (.int j205_3_5), .val (.int (2048 : Int32))] [])) _
          refine XS.iload X.here hx rfl (hb hby d1_247) rfl ?_
          show Steps p.tables e below (T.setTop (mkF m 249 #[.val (.ref b1), .val (.int u1), .val (.int u2), .val (.int j205_3_3), .val (.int (3 : Int32)), .val (.int j205_3_5), .val (.int (2048 : Int32))] [(.int j205_3_5)])) _
          refine X.ldcI hx hown (mvT hZ (hw _ (List.mem_of_getElem? (i := 18) rfl))) rfl (hb hby d1_249) ?_
          show Steps p.tables e below (T.setTop (mkF m 251 #[.val (.ref b1), .val (.int u1), .val (.int u2), .val (.int j205_3_3), .val (.int (3 : Int32)), .val (.int j205_3_5), .val (.int (2048 : Int32))] [(.int (55296 : Int32)), (.int j205_3_5)])) _
          exact k
        by_cases hc251 : j205_3_5 < (55296 : Int32)
        · refine own_end X Bd.notSynchronized (v := some (.int (3 : Int32))) (fun h => by rw [Bd.returns] at h; cases h) (fun fs hr => ?_) eT ?_ (by decide) (by decide)
          · show Steps p.tables e below (T.setTop (mkF m 251 #[.val (.ref b1), .val (.int u1), .val (.int u2), .val (.int j205_3_3), .val (.int (3 : Int32)), .val (.int j205_3_5), .val (.int (2048 : Int32))] [(.int (55296 : Int32)), (.int j205_3_5)])) _
            refine XS.icmpYes X.here hx rfl (pc0 := 251) (pc' := 263) rfl (hb hby d1_251) rfl (tlt hc251).1 (by decide) (by decide) ?_
            show Steps p.tables e below (T.setTop (mkF m 263 #[.val (.ref b1), .val (.int u1), .val (.int u2), .val (.int j205_3_3), .val (.int (3 : Int32)), .val (.int j205_3_5), .val (.int (2048 : Int32))] [])) _
            refine XS.iload X.here hx rfl (hb hby d1_263) rfl ?_
            show Steps p.tables e below (T.setTop (mkF m 265 #[.val (.ref b1), .val (.int u1), .val (.int u2), .val (.int j205_3_3), .val (.int (3 : Int32)), .val (.int j205_3_5), .val (.int (2048 : Int32))] [(.int (3 : Int32))])) _
            exact retI X hx Bd.returns (hb hby d1_265) hr
          · exact ⟨by rw [hv, own_cl_205_3, if_neg hc237, if_neg hc244, if_pos hc251], N, rfl⟩
        · refine own_go (b := T.setTop (mkF m 258 #[.val (.ref b1), .val (.int u1), .val (.int u2), .val (.int j205_3_3), .val (.int (3 : Int32)), .val (.int j205_3_5), .val (.int (2048 : Int32))] [(.int (57343 : Int32)), (.int j205_3_5)])) (fun t k => ?_) ?_
          · show Steps p.tables e below (T.setTop (mkF m 251 #[.val (.ref b1), .val (.int u1), .val (.int u2), .val (.int j205_3_3), .val (.int (3 : Int32)), .val (.int j205_3_5), .val (.int (2048 : Int32))] [(.int (55296 : Int32)), (.int j205_3_5)])) _
            refine XS.icmpNo X.here hx rfl (hb hby d1_251) rfl (flt hc251).1 ?_
            show Steps p.tables e below (T.setTop (mkF m 254 #[.val (.ref b1), .val (.int u1), .val (.int u2), .val (.int j205_3_3), .val (.int (3 : Int32)), .val (.int j205_3_5), .val (.int (2048 : Int32))] [])) _
            refine XS.iload X.here hx rfl (hb hby d1_254) rfl ?_
            show Steps p.tables e below (T.setTop (mkF m 256 #[.val (.ref b1), .val (.int u1), .val (.int u2), .val (.int j205_3_3), .val (.int (3 : Int32)), .val (.int j205_3_5), .val (.int (2048 : Int32))] [(.int j205_3_5)])) _
            refine X.ldcI hx hown (mvT hZ (hw _ (List.mem_of_getElem? (i := 20) rfl))) rfl (hb hby d1_256) ?_
            show Steps p.tables e below (T.setTop (mkF m 258 #[.val (.ref b1), .val (.int u1), .val (.int u2), .val (.int j205_3_3), .val (.int (3 : Int32)), .val (.int j205_3_5), .val (.int (2048 : Int32))] [(.int (57343 : Int32)), (.int j205_3_5)])) _
            exact k
          by_cases hc258 : (57343 : Int32) < j205_3_5
          · refine own_end X Bd.notSynchronized (v := some (.int (3 : Int32))) (fun h => by rw [Bd.returns] at h; cases h) (fun fs hr => ?_) eT ?_ (by decide) (by decide)
            · show Steps p.tables e below (T.setTop (mkF m 258 #[.val (.ref b1), .val (.int u1), .val (.int u2), .val (.int j205_3_3), .val (.int (3 : Int32)), .val (.int j205_3_5), .val (.int (2048 : Int32))] [(.int (57343 : Int32)), (.int j205_3_5)])) _
              refine XS.icmpYes X.here hx rfl (pc0 := 258) (pc' := 263) rfl (hb hby d1_258) rfl (tlt hc258).2.2.1 (by decide) (by decide) ?_
              show Steps p.tables e below (T.setTop (mkF m 263 #[.val (.ref b1), .val (.int u1), .val (.int u2), .val (.int j205_3_3), .val (.int (3 : Int32)), .val (.int j205_3_5), .val (.int (2048 : Int32))] [])) _
              refine XS.iload X.here hx rfl (hb hby d1_263) rfl ?_
              show Steps p.tables e below (T.setTop (mkF m 265 #[.val (.ref b1), .val (.int u1), .val (.int u2), .val (.int j205_3_3), .val (.int (3 : Int32)), .val (.int j205_3_5), .val (.int (2048 : Int32))] [(.int (3 : Int32))])) _
              exact retI X hx Bd.returns (hb hby d1_265) hr
            · exact ⟨by rw [hv, own_cl_205_3, if_neg hc237, if_neg hc244, if_neg hc251, if_pos hc258], N, rfl⟩
          · refine own_end X Bd.notSynchronized (v := some (.int (0 : Int32))) (fun h => by rw [Bd.returns] at h; cases h) (fun fs hr => ?_) eT ?_ (by decide) (by decide)
            · show Steps p.tables e below (T.setTop (mkF m 258 #[.val (.ref b1), .val (.int u1), .val (.int u2), .val (.int j205_3_3), .val (.int (3 : Int32)), .val (.int j205_3_5), .val (.int (2048 : Int32))] [(.int (57343 : Int32)), (.int j205_3_5)])) _
              refine XS.icmpNo X.here hx rfl (hb hby d1_258) rfl (flt hc258).2.2.1 ?_
              show Steps p.tables e below (T.setTop (mkF m 261 #[.val (.ref b1), .val (.int u1), .val (.int u2), .val (.int j205_3_3), .val (.int (3 : Int32)), .val (.int j205_3_5), .val (.int (2048 : Int32))] [])) _
              refine XS.iconst X.here hx rfl (hb hby d1_261) ?_
              show Steps p.tables e below (T.setTop (mkF m 262 #[.val (.ref b1), .val (.int u1), .val (.int u2), .val (.int j205_3_3), .val (.int (3 : Int32)), .val (.int j205_3_5), .val (.int (2048 : Int32))] [(.int (0 : Int32))])) _
              exact retI X hx Bd.returns (hb hby d1_262) hr
            · exact ⟨by rw [hv, own_cl_205_3, if_neg hc237, if_neg hc244, if_neg hc251, if_neg hc258], N, rfl⟩
  have J205_2 : ∀ (T : State) (lc : List Loc), Stand p l e ({ frames := 0, cells := 0, slots := 0, locals := 0 } : Room) s m #[(.ref b1), (.int u1), (.int u2)] below meth c T lc 0 0 → Fr n0 lc → T.heap = h0 → ∀ (j205_2_3 : Int32) (j205_2_5 : Int32), ¬ (u2 - u1) < (2 : Int32) → own_cl_0 f_b1 u1 u2 = own_cl_205_2 f_b1 u1 u2 j205_2_3 j205_2_5 → own_Go p e below s (Q1 b1 cl_b1 f_b1 z_b1 u1 u2 h0 n0) ({ frames := 0, cells := 0, slots := 0, locals := 0 } : Room).cells ({ frames := 0, cells := 0, slots := 0, locals := 0 } : Room).slots (T.setTop (mkF m 205 #[.val (.ref b1), .val (.int u1), .val (.int u2), .val (.int j205_2_3), .val (.int (2 : Int32)), .val (.int j205_2_5), .unset] [])) := by
    intro T lc X N eT j205_2_3 j205_2_5  hc89 hv
    have hc208_5 : (2 : Int32) = (2 : Int32) := (by decide)
    refine own_go (b := T.setTop (mkF m 237 #[.val (.ref b1), .val (.int u1), .val (.int u2), .val (.int j205_2_3), .val (.int (2 : Int32)), .val (.int j205_2_5), .val (.int (128 : Int32))] [(.int (128 : Int32)), (.int j205_2_5)])) (fun t k => ?_) ?_
    · show Steps p.tables e below (T.setTop (mkF m 205 #[.val (.ref b1), .val (.int u1), .val (.int u2), .val (.int j205_2_3), .val (.int (2 : Int32)), .val (.int j205_2_5), .unset] [])) _
      refine XS.iload X.here hx rfl (hb hby d1_205) rfl ?_
      show Steps p.tables e below (T.setTop (mkF m 207 #[.val (.ref b1), .val (.int u1), .val (.int u2), .val (.int j205_2_3), .val (.int (2 : Int32)), .val (.int j205_2_5), .unset] [(.int (2 : Int32))])) _
      refine XS.iconst X.here hx rfl (hb hby d1_207) ?_
      show Steps p.tables e below (T.setTop (mkF m 208 #[.val (.ref b1), .val (.int u1), .val (.int u2), .val (.int j205_2_3), .val (.int (2 : Int32)), .val (.int j205_2_5), .unset] [(.int (2 : Int32)), (.int (2 : Int32))])) _
      refine XS.icmpNo X.here hx rfl (hb hby d1_208) rfl (teq hc208_5).2 ?_
      show Steps p.tables e below (T.setTop (mkF m 211 #[.val (.ref b1), .val (.int u1), .val (.int u2), .val (.int j205_2_3), .val (.int (2 : Int32)), .val (.int j205_2_5), .unset] [])) _
      refine XS.sipush X.here hx rfl (hb hby d1_211) ?_
      show Steps p.tables e below (T.setTop (mkF m 214 #[.val (.ref b1), .val (.int u1), .val (.int u2), .val (.int j205_2_3), .val (.int (2 : Int32)), .val (.int j205_2_5), .unset] [(.int (128 : Int32))])) _
      refine XS.goto X.here hx rfl (pc0 := 214) (pc' := 231) rfl (hb hby d1_214) (by decide) (by decide) ?_
      show Steps p.tables e below (T.setTop (mkF m 231 #[.val (.ref b1), .val (.int u1), .val (.int u2), .val (.int j205_2_3), .val (.int (2 : Int32)), .val (.int j205_2_5), .unset] [(.int (128 : Int32))])) _
      refine XS.istore X.here hx rfl (hb hby d1_231) rfl (l' := #[.val (.ref b1), .val (.int u1), .val (.int u2), .val (.int j205_2_3), .val (.int (2 : Int32)), .val (.int j205_2_5), .val (.int (128 : Int32))]) rfl ?_
      show Steps p.tables e below (T.setTop (mkF m 233 #[.val (.ref b1), .val (.int u1), .val (.int u2), .val (.int j205_2_3), .val (.int (2 : Int32)), .val (.int j205_2_5), .val (.int (128 : Int32))] [])) _
      refine XS.iload X.here hx rfl (hb hby d1_233) rfl ?_
      show Steps p.tables e below (T.setTop (mkF m 235 #[.val (.ref b1), .val (.int u1), .val (.int u2), .val (.int j205_2_3), .val (.int (2 : Int32)), .val (.int j205_2_5), .val (.int (128 : Int32))] [(.int j205_2_5)])) _
      refine XS.iload X.here hx rfl (hb hby d1_235) rfl ?_
      show Steps p.tables e below (T.setTop (mkF m 237 #[.val (.ref b1), .val (.int u1), .val (.int u2), .val (.int j205_2_3), .val (.int (2 : Int32)), .val (.int j205_2_5), .val (.int (128 : Int32))] [(.int (128 : Int32)), (.int j205_2_5)])) _
      exact k
    by_cases hc237 : j205_2_5 < (128 : Int32)
    · refine own_end X Bd.notSynchronized (v := some (.int (0 : Int32))) (fun h => by rw [Bd.returns] at h; cases h) (fun fs hr => ?_) eT ?_ (by decide) (by decide)
      · show Steps p.tables e below (T.setTop (mkF m 237 #[.val (.ref b1), .val (.int u1), .val (.int u2), .val (.int j205_2_3), .val (.int (2 : Int32)), .val (.int j205_2_5), .val (.int (128 : Int32))] [(.int (128 : Int32)), (.int j205_2_5)])) _
        refine XS.icmpYes X.here hx rfl (pc0 := 237) (pc' := 261) rfl (hb hby d1_237) rfl (tlt hc237).1 (by decide) (by decide) ?_
        show Steps p.tables e below (T.setTop (mkF m 261 #[.val (.ref b1), .val (.int u1), .val (.int u2), .val (.int j205_2_3), .val (.int (2 : Int32)), .val (.int j205_2_5), .val (.int (128 : Int32))] [])) _
        refine XS.iconst X.here hx rfl (hb hby d1_261) ?_
        show Steps p.tables e below (T.setTop (mkF m 262 #[.val (.ref b1), .val (.int u1), .val (.int u2), .val (.int j205_2_3), .val (.int (2 : Int32)), .val (.int j205_2_5), .val (.int (128 : Int32))] [(.int (0 : Int32))])) _
        exact retI X hx Bd.returns (hb hby d1_262) hr
      · exact ⟨by rw [hv, own_cl_205_2, if_pos hc237], N, rfl⟩
    · refine own_go (b := T.setTop (mkF m 244 #[.val (.ref b1), .val (.int u1), .val (.int u2), .val (.int j205_2_3), .val (.int (2 : Int32)), .val (.int j205_2_5), .val (.int (128 : Int32))] [(.int (1114111 : Int32)), (.int j205_2_5)])) (fun t k => ?_) ?_
      · show Steps p.tables e below (T.setTop (mkF m 237 #[.val (.ref b1), .val (.int u1), .val (.int u2), .val (.int j205_2_3), .val (.int (2 : Int32)), .val (.int j205_2_5), .val (.int (128 : Int32))] [(.int (128 : Int32)), (.int j205_2_5)])) _
        refine XS.icmpNo X.here hx rfl (hb hby d1_237) rfl (flt hc237).1 ?_
        show Steps p.tables e below (T.setTop (mkF m 240 #[.val (.ref b1), .val (.int u1), .val (.int u2), .val (.int j205_2_3), .val (.int (2 : Int32)), .val (.int j205_2_5), .val (.int (128 : Int32))] [])) _
        refine XS.iload X.here hx rfl (hb hby d1_240) rfl ?_
        show Steps p.tables e below (T.setTop (mkF m 242 #[.val (.ref b1), .val (.int u1), .val (.int u2), .val (.int j205_2_3), .val (.int (2 : Int32)), .val (.int j205_2_5), .val (.int (128 : Int32))] [(.int j205_2_5)])) _
        refine X.ldcI hx hown (mvT hZ (hw _ (List.mem_of_getElem? (i := 17) rfl))) rfl (hb hby d1_242) ?_
        show Steps p.tables e below (T.setTop (mkF m 244 #[.val (.ref b1), .val (.int u1), .val (.int u2), .val (.int j205_2_3), .val (.int (2 : Int32)), .val (.int j205_2_5), .val (.int (128 : Int32))] [(.int (1114111 : Int32)), (.int j205_2_5)])) _
        exact k
      by_cases hc244 : (1114111 : Int32) < j205_2_5
      · refine own_end X Bd.notSynchronized (v := some (.int (0 : Int32))) (fun h => by rw [Bd.returns] at h; cases h) (fun fs hr => ?_) eT ?_ (by decide) (by decide)
        · show Steps p.tables e below (T.setTop (mkF m 244 #[.val (.ref b1), .val (.int u1), .val (.int u2), .val (.int j205_2_3), .val (.int (2 : Int32)), .val (.int j205_2_5), .val (.int (128 : Int32))] [(.int (1114111 : Int32)), (.int j205_2_5)])) _
          refine XS.icmpYes X.here hx rfl (pc0 := 244) (pc' := 261) rfl (hb hby d1_244) rfl (tlt hc244).2.2.1 (by decide) (by decide) ?_
          show Steps p.tables e below (T.setTop (mkF m 261 #[.val (.ref b1), .val (.int u1), .val (.int u2), .val (.int j205_2_3), .val (.int (2 : Int32)), .val (.int j205_2_5), .val (.int (128 : Int32))] [])) _
          refine XS.iconst X.here hx rfl (hb hby d1_261) ?_
          show Steps p.tables e below (T.setTop (mkF m 262 #[.val (.ref b1), .val (.int u1), .val (.int u2), .val (.int j205_2_3), .val (.int (2 : Int32)), .val (.int j205_2_5), .val (.int (128 : Int32))] [(.int (0 : Int32))])) _
          exact retI X hx Bd.returns (hb hby d1_262) hr
        · exact ⟨by rw [hv, own_cl_205_2, if_neg hc237, if_pos hc244], N, rfl⟩
      · refine own_go (b := T.setTop (mkF m 251 #[.val (.ref b1), .val (.int u1), .val (.int u2), .val (.int j205_2_3), .val (.int (2 : Int32)), .val (.int j205_2_5), .val (.int (128 : Int32))] [(.int (55296 : Int32)), (.int j205_2_5)])) (fun t k => ?_) ?_
        · show Steps p.tables e below (T.setTop (mkF m 244 #[.val (.ref b1), .val (.int u1), .val (.int u2), .val (.int j205_2_3), .val (.int (2 : Int32)), .val (.int j205_2_5), .val (.int (128 : Int32))] [(.int (1114111 : Int32)), (.int j205_2_5)])) _
          refine XS.icmpNo X.here hx rfl (hb hby d1_244) rfl (flt hc244).2.2.1 ?_
          show Steps p.tables e below (T.setTop (mkF m 247 #[.val (.ref b1), .val (.int u1), .val (.int u2), .val (.int j205_2_3), .val (.int (2 : Int32)), .val (.int j205_2_5), .val (.int (128 : Int32))] [])) _
          refine XS.iload X.here hx rfl (hb hby d1_247) rfl ?_
          show Steps p.tables e below (T.setTop (mkF m 249 #[.val (.ref b1), .val (.int u1), .val (.int u2), .val (.int j205_2_3), .val (.int (2 : Int32)), .val (.int j205_2_5), .val (.int (128 : Int32))] [(.int j205_2_5)])) _
          refine X.ldcI hx hown (mvT hZ (hw _ (List.mem_of_getElem? (i := 18) rfl))) rfl (hb hby d1_249) ?_
          show Steps p.tables e below (T.setTop (mkF m 251 #[.val (.ref b1), .val (.int u1), .val (.int u2), .val (.int j205_2_3), .val (.int (2 : Int32)), .val (.int j205_2_5), .val (.int (128 : Int32))] [(.int (55296 : Int32)), (.int j205_2_5)])) _
          exact k
        by_cases hc251 : j205_2_5 < (55296 : Int32)
        · refine own_end X Bd.notSynchronized (v := some (.int (2 : Int32))) (fun h => by rw [Bd.returns] at h; cases h) (fun fs hr => ?_) eT ?_ (by decide) (by decide)
          · show Steps p.tables e below (T.setTop (mkF m 251 #[.val (.ref b1), .val (.int u1), .val (.int u2), .val (.int j205_2_3), .val (.int (2 : Int32)), .val (.int j205_2_5), .val (.int (128 : Int32))] [(.int (55296 : Int32)), (.int j205_2_5)])) _
            refine XS.icmpYes X.here hx rfl (pc0 := 251) (pc' := 263) rfl (hb hby d1_251) rfl (tlt hc251).1 (by decide) (by decide) ?_
            show Steps p.tables e below (T.setTop (mkF m 263 #[.val (.ref b1), .val (.int u1), .val (.int u2), .val (.int j205_2_3), .val (.int (2 : Int32)), .val (.int j205_2_5), .val (.int (128 : Int32))] [])) _
            refine XS.iload X.here hx rfl (hb hby d1_263) rfl ?_
            show Steps p.tables e below (T.setTop (mkF m 265 #[.val (.ref b1), .val (.int u1), .val (.int u2), .val (.int j205_2_3), .val (.int (2 : Int32)), .val (.int j205_2_5), .val (.int (128 : Int32))] [(.int (2 : Int32))])) _
            exact retI X hx Bd.returns (hb hby d1_265) hr
          · exact ⟨by rw [hv, own_cl_205_2, if_neg hc237, if_neg hc244, if_pos hc251], N, rfl⟩
        · refine own_go (b := T.setTop (mkF m 258 #[.val (.ref b1), .val (.int u1), .val (.int u2), .val (.int j205_2_3), .val (.int (2 : Int32)), .val (.int j205_2_5), .val (.int (128 : Int32))] [(.int (57343 : Int32)), (.int j205_2_5)])) (fun t k => ?_) ?_
          · show Steps p.tables e below (T.setTop (mkF m 251 #[.val (.ref b1), .val (.int u1), .val (.int u2), .val (.int j205_2_3), .val (.int (2 : Int32)), .val (.int j205_2_5), .val (.int (128 : Int32))] [(.int (55296 : Int32)), (.int j205_2_5)])) _
            refine XS.icmpNo X.here hx rfl (hb hby d1_251) rfl (flt hc251).1 ?_
            show Steps p.tables e below (T.setTop (mkF m 254 #[.val (.ref b1), .val (.int u1), .val (.int u2), .val (.int j205_2_3), .val (.int (2 : Int32)), .val (.int j205_2_5), .val (.int (128 : Int32))] [])) _
            refine XS.iload X.here hx rfl (hb hby d1_254) rfl ?_
            show Steps p.tables e below (T.setTop (mkF m 256 #[.val (.ref b1), .val (.int u1), .val (.int u2), .val (.int j205_2_3), .val (.int (2 : Int32)), .val (.int j205_2_5), .val (.int (128 : Int32))] [(.int j205_2_5)])) _
            refine X.ldcI hx hown (mvT hZ (hw _ (List.mem_of_getElem? (i := 20) rfl))) rfl (hb hby d1_256) ?_
            show Steps p.tables e below (T.setTop (mkF m 258 #[.val (.ref b1), .val (.int u1), .val (.int u2), .val (.int j205_2_3), .val (.int (2 : Int32)), .val (.int j205_2_5), .val (.int (128 : Int32))] [(.int (57343 : Int32)), (.int j205_2_5)])) _
            exact k
          by_cases hc258 : (57343 : Int32) < j205_2_5
          · refine own_end X Bd.notSynchronized (v := some (.int (2 : Int32))) (fun h => by rw [Bd.returns] at h; cases h) (fun fs hr => ?_) eT ?_ (by decide) (by decide)
            · show Steps p.tables e below (T.setTop (mkF m 258 #[.val (.ref b1), .val (.int u1), .val (.int u2), .val (.int j205_2_3), .val (.int (2 : Int32)), .val (.int j205_2_5), .val (.int (128 : Int32))] [(.int (57343 : Int32)), (.int j205_2_5)])) _
              refine XS.icmpYes X.here hx rfl (pc0 := 258) (pc' := 263) rfl (hb hby d1_258) rfl (tlt hc258).2.2.1 (by decide) (by decide) ?_
              show Steps p.tables e below (T.setTop (mkF m 263 #[.val (.ref b1), .val (.int u1), .val (.int u2), .val (.int j205_2_3), .val (.int (2 : Int32)), .val (.int j205_2_5), .val (.int (128 : Int32))] [])) _
              refine XS.iload X.here hx rfl (hb hby d1_263) rfl ?_
              show Steps p.tables e below (T.setTop (mkF m 265 #[.val (.ref b1), .val (.int u1), .val (.int u2), .val (.int j205_2_3), .val (.int (2 : Int32)), .val (.int j205_2_5), .val (.int (128 : Int32))] [(.int (2 : Int32))])) _
              exact retI X hx Bd.returns (hb hby d1_265) hr
            · exact ⟨by rw [hv, own_cl_205_2, if_neg hc237, if_neg hc244, if_neg hc251, if_pos hc258], N, rfl⟩
          · refine own_end X Bd.notSynchronized (v := some (.int (0 : Int32))) (fun h => by rw [Bd.returns] at h; cases h) (fun fs hr => ?_) eT ?_ (by decide) (by decide)
            · show Steps p.tables e below (T.setTop (mkF m 258 #[.val (.ref b1), .val (.int u1), .val (.int u2), .val (.int j205_2_3), .val (.int (2 : Int32)), .val (.int j205_2_5), .val (.int (128 : Int32))] [(.int (57343 : Int32)), (.int j205_2_5)])) _
              refine XS.icmpNo X.here hx rfl (hb hby d1_258) rfl (flt hc258).2.2.1 ?_
              show Steps p.tables e below (T.setTop (mkF m 261 #[.val (.ref b1), .val (.int u1), .val (.int u2), .val (.int j205_2_3), .val (.int (2 : Int32)), .val (.int j205_2_5), .val (.int (128 : Int32))] [])) _
              refine XS.iconst X.here hx rfl (hb hby d1_261) ?_
              show Steps p.tables e below (T.setTop (mkF m 262 #[.val (.ref b1), .val (.int u1), .val (.int u2), .val (.int j205_2_3), .val (.int (2 : Int32)), .val (.int j205_2_5), .val (.int (128 : Int32))] [(.int (0 : Int32))])) _
              exact retI X hx Bd.returns (hb hby d1_262) hr
            · exact ⟨by rw [hv, own_cl_205_2, if_neg hc237, if_neg hc244, if_neg hc251, if_neg hc258], N, rfl⟩
  have J166_4 : ∀ (T : State) (lc : List Loc), Stand p l e ({ frames := 0, cells := 0, slots := 0, locals := 0 } : Room) s m #[(.ref b1), (.int u1), (.int u2)] below meth c T lc 0 0 → Fr n0 lc → T.heap = h0 → ∀ (j166_4_3 : Int32) (j166_4_5 : Int32), ¬ (u2 - u1) < (4 : Int32) → own_cl_0 f_b1 u1 u2 = own_cl_166_4 f_b1 u1 u2 j166_4_3 j166_4_5 → own_Go p e below s (Q1 b1 cl_b1 f_b1 z_b1 u1 u2 h0 n0) ({ frames := 0, cells := 0, slots := 0, locals := 0 } : Room).cells ({ frames := 0, cells := 0, slots := 0, locals := 0 } : Room).slots (T.setTop (mkF m 166 #[.val (.ref b1), .val (.int u1), .val (.int u2), .val (.int j166_4_3), .val (.int (4 : Int32)), .val (.int j166_4_5), .unset] [])) := by
    intro T lc X N eT j166_4_3 j166_4_5  hc89 hv
    have hc169_6 : (4 : Int32) = (4 : Int32) := (by decide)
    have hi7 : ¬ (u1 + (3 : Int32)) < 0 ∧ (u1 + (3 : Int32)).toNatClampNeg < z_b1.toNatClampNeg := own_ixk i0 i1 i2 hc89 (by decide)
    refine own_go (b := T.setTop (mkF m 184 #[.val (.ref b1), .val (.int u1), .val (.int u2), .val (.int j166_4_3), .val (.int (4 : Int32)), .val (.int j166_4_5), .unset] [(.int (128 : Int32)), (.int ((f_b1 (u1 + (3 : Int32)).toNatClampNeg) &&& (192 : Int32)))])) (fun t k => ?_) ?_
    · show Steps p.tables e below (T.setTop (mkF m 166 #[.val (.ref b1), .val (.int u1), .val (.int u2), .val (.int j166_4_3), .val (.int (4 : Int32)), .val (.int j166_4_5), .unset] [])) _
      refine XS.iload X.here hx rfl (hb hby d1_166) rfl ?_
      show Steps p.tables e below (T.setTop (mkF m 168 #[.val (.ref b1), .val (.int u1), .val (.int u2), .val (.int j166_4_3), .val (.int (4 : Int32)), .val (.int j166_4_5), .unset] [(.int (4 : Int32))])) _
      refine XS.iconst X.here hx rfl (hb hby d1_168) ?_
      show Steps p.tables e below (T.setTop (mkF m 169 #[.val (.ref b1), .val (.int u1), .val (.int u2), .val (.int j166_4_3), .val (.int (4 : Int32)), .val (.int j166_4_5), .unset] [(.int (4 : Int32)), (.int (4 : Int32))])) _
      refine XS.icmpNo X.here hx rfl (hb hby d1_169) rfl (teq hc169_6).2 ?_
      show Steps p.tables e below (T.setTop (mkF m 172 #[.val (.ref b1), .val (.int u1), .val (.int u2), .val (.int j166_4_3), .val (.int (4 : Int32)), .val (.int j166_4_5), .unset] [])) _
      refine XS.aloadN X.here hx rfl (hb hby d1_172) rfl rfl ?_
      show Steps p.tables e below (T.setTop (mkF m 173 #[.val (.ref b1), .val (.int u1), .val (.int u2), .val (.int j166_4_3), .val (.int (4 : Int32)), .val (.int j166_4_5), .unset] [(.ref b1)])) _
      refine XS.iloadN X.here hx rfl (hb hby d1_173) rfl ?_
      show Steps p.tables e below (T.setTop (mkF m 174 #[.val (.ref b1), .val (.int u1), .val (.int u2), .val (.int j166_4_3), .val (.int (4 : Int32)), .val (.int j166_4_5), .unset] [(.int u1), (.ref b1)])) _
      refine XS.iconst X.here hx rfl (hb hby d1_174) ?_
      show Steps p.tables e below (T.setTop (mkF m 175 #[.val (.ref b1), .val (.int u1), .val (.int u2), .val (.int j166_4_3), .val (.int (4 : Int32)), .val (.int j166_4_5), .unset] [(.int (3 : Int32)), (.int u1), (.ref b1)])) _
      refine XS.iadd X.here hx rfl (hb hby d1_175) rfl ?_
      show Steps p.tables e below (T.setTop (mkF m 176 #[.val (.ref b1), .val (.int u1), .val (.int u2), .val (.int j166_4_3), .val (.int (4 : Int32)), .val (.int j166_4_5), .unset] [(.int (u1 + (3 : Int32))), (.ref b1)])) _
      refine X.iaload hx (j := (u1 + (3 : Int32))) (v := (.int (f_b1 (u1 + (3 : Int32)).toNatClampNeg))) (by rw [eT]; exact Ar_b1.1) (State.isArrayOf_alike hZ.alike Ar_b1.2.1) Ar_b1.2.2 (own_hin S_b1 hi7) (H_b1 _ hi7.2) (g := (mkF m 176 #[.val (.ref b1), .val (.int u1), .val (.int u2), .val (.int j166_4_3), .val (.int (4 : Int32)), .val (.int j166_4_5), .unset] [(.int (u1 + (3 : Int32))), (.ref b1)])) rfl rfl (hb hby d1_176) _ ?_
      show Steps p.tables e below (T.setTop (mkF m 177 #[.val (.ref b1), .val (.int u1), .val (.int u2), .val (.int j166_4_3), .val (.int (4 : Int32)), .val (.int j166_4_5), .unset] [(.int (f_b1 (u1 + (3 : Int32)).toNatClampNeg))])) _
      refine XS.sipush X.here hx rfl (hb hby d1_177) ?_
      show Steps p.tables e below (T.setTop (mkF m 180 #[.val (.ref b1), .val (.int u1), .val (.int u2), .val (.int j166_4_3), .val (.int (4 : Int32)), .val (.int j166_4_5), .unset] [(.int (192 : Int32)), (.int (f_b1 (u1 + (3 : Int32)).toNatClampNeg))])) _
      refine XS.iand X.here hx rfl (hb hby d1_180) rfl ?_
      show Steps p.tables e below (T.setTop (mkF m 181 #[.val (.ref b1), .val (.int u1), .val (.int u2), .val (.int j166_4_3), .val (.int (4 : Int32)), .val (.int j166_4_5), .unset] [(.int ((f_b1 (u1 + (3 : Int32)).toNatClampNeg) &&& (192 : Int32)))])) _
      refine XS.sipush X.here hx rfl (hb hby d1_181) ?_
      show Steps p.tables e below (T.setTop (mkF m 184 #[.val (.ref b1), .val (.int u1), .val (.int u2), .val (.int j166_4_3), .val (.int (4 : Int32)), .val (.int j166_4_5), .unset] [(.int (128 : Int32)), (.int ((f_b1 (u1 + (3 : Int32)).toNatClampNeg) &&& (192 : Int32)))])) _
      exact k
    by_cases hc184 : ((f_b1 (u1 + (3 : Int32)).toNatClampNeg) &&& (192 : Int32)) = (128 : Int32)
    · have hi8 : ¬ (u1 + (3 : Int32)) < 0 ∧ (u1 + (3 : Int32)).toNatClampNeg < z_b1.toNatClampNeg := own_ixk i0 i1 i2 hc89 (by decide)
      refine own_go (b := T.setTop (mkF m 205 #[.val (.ref b1), .val (.int u1), .val (.int u2), .val (.int j166_4_3), .val (.int (4 : Int32)), .val (.int ((j166_4_5 <<< ((6 : Int32) &&& 31)) ||| ((f_b1 (u1 + (3 : Int32)).toNatClampNeg) &&& (63 : Int32)))), .unset] [])) (fun t k => ?_) ?_
      · show Steps p.tables e below (T.setTop (mkF m 184 #[.val (.ref b1), .val (.int u1), .val (.int u2), .val (.int j166_4_3), .val (.int (4 : Int32)), .val (.int j166_4_5), .unset] [(.int (128 : Int32)), (.int ((f_b1 (u1 + (3 : Int32)).toNatClampNeg) &&& (192 : Int32)))])) _
        refine XS.icmpYes X.here hx rfl (pc0 := 184) (pc' := 189) rfl (hb hby d1_184) rfl (teq hc184).1 (by decide) (by decide) ?_
        show Steps p.tables e below (T.setTop (mkF m 189 #[.val (.ref b1), .val (.int u1), .val (.int u2), .val (.int j166_4_3), .val (.int (4 : Int32)), .val (.int j166_4_5), .unset] [])) _
        refine XS.iload X.here hx rfl (hb hby d1_189) rfl ?_
        show Steps p.tables e below (T.setTop (mkF m 191 #[.val (.ref b1), .val (.int u1), .val (.int u2), .val (.int j166_4_3), .val (.int (4 : Int32)), .val (.int j166_4_5), .unset] [(.int j166_4_5)])) _
        refine XS.bipush X.here hx rfl (hb hby d1_191) ?_
        show Steps p.tables e below (T.setTop (mkF m 193 #[.val (.ref b1), .val (.int u1), .val (.int u2), .val (.int j166_4_3), .val (.int (4 : Int32)), .val (.int j166_4_5), .unset] [(.int (6 : Int32)), (.int j166_4_5)])) _
        refine XS.ishl X.here hx rfl (hb hby d1_193) rfl ?_
        show Steps p.tables e below (T.setTop (mkF m 194 #[.val (.ref b1), .val (.int u1), .val (.int u2), .val (.int j166_4_3), .val (.int (4 : Int32)), .val (.int j166_4_5), .unset] [(.int (j166_4_5 <<< ((6 : Int32) &&& 31)))])) _
        refine XS.aloadN X.here hx rfl (hb hby d1_194) rfl rfl ?_
        show Steps p.tables e below (T.setTop (mkF m 195 #[.val (.ref b1), .val (.int u1), .val (.int u2), .val (.int j166_4_3), .val (.int (4 : Int32)), .val (.int j166_4_5), .unset] [(.ref b1), (.int (j166_4_5 <<< ((6 : Int32) &&& 31)))])) _
        refine XS.iloadN X.here hx rfl (hb hby d1_195) rfl ?_
        show Steps p.tables e below (T.setTop (mkF m 196 #[.val (.ref b1), .val (.int u1), .val (.int u2), .val (.int j166_4_3), .val (.int (4 : Int32)), .val (.int j166_4_5), .unset] [(.int u1), (.ref b1), (.int (j166_4_5 <<< ((6 : Int32) &&& 31)))])) _
        refine XS.iconst X.here hx rfl (hb hby d1_196) ?_
        show Steps p.tables e below (T.setTop (mkF m 197 #[.val (.ref b1), .val (.int u1), .val (.int u2), .val (.int j166_4_3), .val (.int (4 : Int32)), .val (.int j166_4_5), .unset] [(.int (3 : Int32)), (.int u1), (.ref b1), (.int (j166_4_5 <<< ((6 : Int32) &&& 31)))])) _
        refine XS.iadd X.here hx rfl (hb hby d1_197) rfl ?_
        show Steps p.tables e below (T.setTop (mkF m 198 #[.val (.ref b1), .val (.int u1), .val (.int u2), .val (.int j166_4_3), .val (.int (4 : Int32)), .val (.int j166_4_5), .unset] [(.int (u1 + (3 : Int32))), (.ref b1), (.int (j166_4_5 <<< ((6 : Int32) &&& 31)))])) _
        refine X.iaload hx (j := (u1 + (3 : Int32))) (v := (.int (f_b1 (u1 + (3 : Int32)).toNatClampNeg))) (by rw [eT]; exact Ar_b1.1) (State.isArrayOf_alike hZ.alike Ar_b1.2.1) Ar_b1.2.2 (own_hin S_b1 hi8) (H_b1 _ hi8.2) (g := (mkF m 198 #[.val (.ref b1), .val (.int u1), .val (.int u2), .val (.int j166_4_3), .val (.int (4 : Int32)), .val (.int j166_4_5), .unset] [(.int (u1 + (3 : Int32))), (.ref b1), (.int (j166_4_5 <<< ((6 : Int32) &&& 31)))])) rfl rfl (hb hby d1_198) _ ?_
        show Steps p.tables e below (T.setTop (mkF m 199 #[.val (.ref b1), .val (.int u1), .val (.int u2), .val (.int j166_4_3), .val (.int (4 : Int32)), .val (.int j166_4_5), .unset] [(.int (f_b1 (u1 + (3 : Int32)).toNatClampNeg)), (.int (j166_4_5 <<< ((6 : Int32) &&& 31)))])) _
        refine XS.bipush X.here hx rfl (hb hby d1_199) ?_
        show Steps p.tables e below (T.setTop (mkF m 201 #[.val (.ref b1), .val (.int u1), .val (.int u2), .val (.int j166_4_3), .val (.int (4 : Int32)), .val (.int j166_4_5), .unset] [(.int (63 : Int32)), (.int (f_b1 (u1 + (3 : Int32)).toNatClampNeg)), (.int (j166_4_5 <<< ((6 : Int32) &&& 31)))])) _
        refine XS.iand X.here hx rfl (hb hby d1_201) rfl ?_
        show Steps p.tables e below (T.setTop (mkF m 202 #[.val (.ref b1), .val (.int u1), .val (.int u2), .val (.int j166_4_3), .val (.int (4 : Int32)), .val (.int j166_4_5), .unset] [(.int ((f_b1 (u1 + (3 : Int32)).toNatClampNeg) &&& (63 : Int32))), (.int (j166_4_5 <<< ((6 : Int32) &&& 31)))])) _
        refine XS.ior X.here hx rfl (hb hby d1_202) rfl ?_
        show Steps p.tables e below (T.setTop (mkF m 203 #[.val (.ref b1), .val (.int u1), .val (.int u2), .val (.int j166_4_3), .val (.int (4 : Int32)), .val (.int j166_4_5), .unset] [(.int ((j166_4_5 <<< ((6 : Int32) &&& 31)) ||| ((f_b1 (u1 + (3 : Int32)).toNatClampNeg) &&& (63 : Int32))))])) _
        refine XS.istore X.here hx rfl (hb hby d1_203) rfl (l' := #[.val (.ref b1), .val (.int u1), .val (.int u2), .val (.int j166_4_3), .val (.int (4 : Int32)), .val (.int ((j166_4_5 <<< ((6 : Int32) &&& 31)) ||| ((f_b1 (u1 + (3 : Int32)).toNatClampNeg) &&& (63 : Int32)))), .unset]) rfl ?_
        show Steps p.tables e below (T.setTop (mkF m 205 #[.val (.ref b1), .val (.int u1), .val (.int u2), .val (.int j166_4_3), .val (.int (4 : Int32)), .val (.int ((j166_4_5 <<< ((6 : Int32) &&& 31)) ||| ((f_b1 (u1 + (3 : Int32)).toNatClampNeg) &&& (63 : Int32)))), .unset] [])) _
        exact k
      exact J205_4 T _ X N eT j166_4_3 ((j166_4_5 <<< ((6 : Int32) &&& 31)) ||| ((f_b1 (u1 + (3 : Int32)).toNatClampNeg) &&& (63 : Int32)))  (by assumption) (by rw [hv, own_cl_166_4, if_pos hc184])
    · refine own_end X Bd.notSynchronized (v := some (.int (0 : Int32))) (fun h => by rw [Bd.returns] at h; cases h) (fun fs hr => ?_) eT ?_ (by decide) (by decide)
      · show Steps p.tables e below (T.setTop (mkF m 184 #[.val (.ref b1), .val (.int u1), .val (.int u2), .val (.int j166_4_3), .val (.int (4 : Int32)), .val (.int j166_4_5), .unset] [(.int (128 : Int32)), (.int ((f_b1 (u1 + (3 : Int32)).toNatClampNeg) &&& (192 : Int32)))])) _
        refine XS.icmpNo X.here hx rfl (hb hby d1_184) rfl (feq hc184).1 ?_
        show Steps p.tables e below (T.setTop (mkF m 187 #[.val (.ref b1), .val (.int u1), .val (.int u2), .val (.int j166_4_3), .val (.int (4 : Int32)), .val (.int j166_4_5), .unset] [])) _
        refine XS.iconst X.here hx rfl (hb hby d1_187) ?_
        show Steps p.tables e below (T.setTop (mkF m 188 #[.val (.ref b1), .val (.int u1), .val (.int u2), .val (.int j166_4_3), .val (.int (4 : Int32)), .val (.int j166_4_5), .unset] [(.int (0 : Int32))])) _
        exact retI X hx Bd.returns (hb hby d1_188) hr
      · exact ⟨by rw [hv, own_cl_166_4, if_neg hc184], N, rfl⟩
  have J166_3 : ∀ (T : State) (lc : List Loc), Stand p l e ({ frames := 0, cells := 0, slots := 0, locals := 0 } : Room) s m #[(.ref b1), (.int u1), (.int u2)] below meth c T lc 0 0 → Fr n0 lc → T.heap = h0 → ∀ (j166_3_3 : Int32) (j166_3_5 : Int32), ¬ (u2 - u1) < (3 : Int32) → own_cl_0 f_b1 u1 u2 = own_cl_166_3 f_b1 u1 u2 j166_3_3 j166_3_5 → own_Go p e below s (Q1 b1 cl_b1 f_b1 z_b1 u1 u2 h0 n0) ({ frames := 0, cells := 0, slots := 0, locals := 0 } : Room).cells ({ frames := 0, cells := 0, slots := 0, locals := 0 } : Room).slots (T.setTop (mkF m 166 #[.val (.ref b1), .val (.int u1), .val (.int u2), .val (.int j166_3_3), .val (.int (3 : Int32)), .val (.int j166_3_5), .unset] [])) := by
    intro T lc X N eT j166_3_3 j166_3_5  hc89 hv
    have hc169_9 : ¬ ((3 : Int32) = (4 : Int32)) := (by decide)
    refine own_go (b := T.setTop (mkF m 205 #[.val (.ref b1), .val (.int u1), .val (.int u2), .val (.int j166_3_3), .val (.int (3 : Int32)), .val (.int j166_3_5), .unset] [])) (fun t k => ?_) ?_
    · show Steps p.tables e below (T.setTop (mkF m 166 #[.val (.ref b1), .val (.int u1), .val (.int u2), .val (.int j166_3_3), .val (.int (3 : Int32)), .val (.int j166_3_5), .unset] [])) _
      refine XS.iload X.here hx rfl (hb hby d1_166) rfl ?_
      show Steps p.tables e below (T.setTop (mkF m 168 #[.val (.ref b1), .val (.int u1), .val (.int u2), .val (.int j166_3_3), .val (.int (3 : Int32)), .val (.int j166_3_5), .unset] [(.int (3 : Int32))])) _
      refine XS.iconst X.here hx rfl (hb hby d1_168) ?_
      show Steps p.tables e below (T.setTop (mkF m 169 #[.val (.ref b1), .val (.int u1), .val (.int u2), .val (.int j166_3_3), .val (.int (3 : Int32)), .val (.int j166_3_5), .unset] [(.int (4 : Int32)), (.int (3 : Int32))])) _
      refine XS.icmpYes X.here hx rfl (pc0 := 169) (pc' := 205) rfl (hb hby d1_169) rfl (feq hc169_9).2 (by decide) (by decide) ?_
      show Steps p.tables e below (T.setTop (mkF m 205 #[.val (.ref b1), .val (.int u1), .val (.int u2), .val (.int j166_3_3), .val (.int (3 : Int32)), .val (.int j166_3_5), .unset] [])) _
      exact k
    exact J205_3 T _ X N eT j166_3_3 j166_3_5  (by assumption) (by rw [hv, own_cl_166_3])
  have J166_2 : ∀ (T : State) (lc : List Loc), Stand p l e ({ frames := 0, cells := 0, slots := 0, locals := 0 } : Room) s m #[(.ref b1), (.int u1), (.int u2)] below meth c T lc 0 0 → Fr n0 lc → T.heap = h0 → ∀ (j166_2_3 : Int32) (j166_2_5 : Int32), ¬ (u2 - u1) < (2 : Int32) → own_cl_0 f_b1 u1 u2 = own_cl_166_2 f_b1 u1 u2 j166_2_3 j166_2_5 → own_Go p e below s (Q1 b1 cl_b1 f_b1 z_b1 u1 u2 h0 n0) ({ frames := 0, cells := 0, slots := 0, locals := 0 } : Room).cells ({ frames := 0, cells := 0, slots := 0, locals := 0 } : Room).slots (T.setTop (mkF m 166 #[.val (.ref b1), .val (.int u1), .val (.int u2), .val (.int j166_2_3), .val (.int (2 : Int32)), .val (.int j166_2_5), .unset] [])) := by
    intro T lc X N eT j166_2_3 j166_2_5  hc89 hv
    have hc169_10 : ¬ ((2 : Int32) = (4 : Int32)) := (by decide)
    refine own_go (b := T.setTop (mkF m 205 #[.val (.ref b1), .val (.int u1), .val (.int u2), .val (.int j166_2_3), .val (.int (2 : Int32)), .val (.int j166_2_5), .unset] [])) (fun t k => ?_) ?_
    · show Steps p.tables e below (T.setTop (mkF m 166 #[.val (.ref b1), .val (.int u1), .val (.int u2), .val (.int j166_2_3), .val (.int (2 : Int32)), .val (.int j166_2_5), .unset] [])) _
      refine XS.iload X.here hx rfl (hb hby d1_166) rfl ?_
      show Steps p.tables e below (T.setTop (mkF m 168 #[.val (.ref b1), .val (.int u1), .val (.int u2), .val (.int j166_2_3), .val (.int (2 : Int32)), .val (.int j166_2_5), .unset] [(.int (2 : Int32))])) _
      refine XS.iconst X.here hx rfl (hb hby d1_168) ?_
      show Steps p.tables e below (T.setTop (mkF m 169 #[.val (.ref b1), .val (.int u1), .val (.int u2), .val (.int j166_2_3), .val (.int (2 : Int32)), .val (.int j166_2_5), .unset] [(.int (4 : Int32)), (.int (2 : Int32))])) _
      refine XS.icmpYes X.here hx rfl (pc0 := 169) (pc' := 205) rfl (hb hby d1_169) rfl (feq hc169_10).2 (by decide) (by decide) ?_
      show Steps p.tables e below (T.setTop (mkF m 205 #[.val (.ref b1), .val (.int u1), .val (.int u2), .val (.int j166_2_3), .val (.int (2 : Int32)), .val (.int j166_2_5), .unset] [])) _
      exact k
    exact J205_2 T _ X N eT j166_2_3 j166_2_5  (by assumption) (by rw [hv, own_cl_166_2])
  have J127_4 : ∀ (T : State) (lc : List Loc), Stand p l e ({ frames := 0, cells := 0, slots := 0, locals := 0 } : Room) s m #[(.ref b1), (.int u1), (.int u2)] below meth c T lc 0 0 → Fr n0 lc → T.heap = h0 → ∀ (j127_4_3 : Int32) (j127_4_5 : Int32), ¬ (u2 - u1) < (4 : Int32) → own_cl_0 f_b1 u1 u2 = own_cl_127_4 f_b1 u1 u2 j127_4_3 j127_4_5 → own_Go p e below s (Q1 b1 cl_b1 f_b1 z_b1 u1 u2 h0 n0) ({ frames := 0, cells := 0, slots := 0, locals := 0 } : Room).cells ({ frames := 0, cells := 0, slots := 0, locals := 0 } : Room).slots (T.setTop (mkF m 127 #[.val (.ref b1), .val (.int u1), .val (.int u2), .val (.int j127_4_3), .val (.int (4 : Int32)), .val (.int j127_4_5), .unset] [])) := by
    intro T lc X N eT j127_4_3 j127_4_5  hc89 hv
    have hc130_11 : ¬ ((4 : Int32) < (3 : Int32)) := (by decide)
    have hi12 : ¬ (u1 + (2 : Int32)) < 0 ∧ (u1 + (2 : Int32)).toNatClampNeg < z_b1.toNatClampNeg := own_ixk i0 i1 i2 hc89 (by decide)
    refine own_go (b := T.setTop (mkF m 145 #[.val (.ref b1), .val (.int u1), .val (.int u2), .val (.int j127_4_3), .val (.int (4 : Int32)), .val (.int j127_4_5), .unset] [(.int (128 : Int32)), (.int ((f_b1 (u1 + (2 : Int32)).toNatClampNeg) &&& (192 : Int32)))])) (fun t k => ?_) ?_
    · show Steps p.tables e below (T.setTop (mkF m 127 #[.val (.ref b1), .val (.int u1), .val (.int u2), .val (.int j127_4_3), .val (.int (4 : Int32)), .val (.int j127_4_5), .unset] [])) _
      refine XS.iload X.here hx rfl (hb hby d1_127) rfl ?_
      show Steps p.tables e below (T.setTop (mkF m 129 #[.val (.ref b1), .val (.int u1), .val (.int u2), .val (.int j127_4_3), .val (.int (4 : Int32)), .val (.int j127_4_5), .unset] [(.int (4 : Int32))])) _
      refine XS.iconst X.here hx rfl (hb hby d1_129) ?_
      show Steps p.tables e below (T.setTop (mkF m 130 #[.val (.ref b1), .val (.int u1), .val (.int u2), .val (.int j127_4_3), .val (.int (4 : Int32)), .val (.int j127_4_5), .unset] [(.int (3 : Int32)), (.int (4 : Int32))])) _
      refine XS.icmpNo X.here hx rfl (hb hby d1_130) rfl (flt hc130_11).1 ?_
      show Steps p.tables e below (T.setTop (mkF m 133 #[.val (.ref b1), .val (.int u1), .val (.int u2), .val (.int j127_4_3), .val (.int (4 : Int32)), .val (.int j127_4_5), .unset] [])) _
      refine XS.aloadN X.here hx rfl (hb hby d1_133) rfl rfl ?_
      show Steps p.tables e below (T.setTop (mkF m 134 #[.val (.ref b1), .val (.int u1), .val (.int u2), .val (.int j127_4_3), .val (.int (4 : Int32)), .val (.int j127_4_5), .unset] [(.ref b1)])) _
      refine XS.iloadN X.here hx rfl (hb hby d1_134) rfl ?_
      show Steps p.tables e below (T.setTop (mkF m 135 #[.val (.ref b1), .val (.int u1), .val (.int u2), .val (.int j127_4_3), .val (.int (4 : Int32)), .val (.int j127_4_5), .unset] [(.int u1), (.ref b1)])) _
      refine XS.iconst X.here hx rfl (hb hby d1_135) ?_
      show Steps p.tables e below (T.setTop (mkF m 136 #[.val (.ref b1), .val (.int u1), .val (.int u2), .val (.int j127_4_3), .val (.int (4 : Int32)), .val (.int j127_4_5), .unset] [(.int (2 : Int32)), (.int u1), (.ref b1)])) _
      refine XS.iadd X.here hx rfl (hb hby d1_136) rfl ?_
      show Steps p.tables e below (T.setTop (mkF m 137 #[.val (.ref b1), .val (.int u1), .val (.int u2), .val (.int j127_4_3), .val (.int (4 : Int32)), .val (.int j127_4_5), .unset] [(.int (u1 + (2 : Int32))), (.ref b1)])) _
      refine X.iaload hx (j := (u1 + (2 : Int32))) (v := (.int (f_b1 (u1 + (2 : Int32)).toNatClampNeg))) (by rw [eT]; exact Ar_b1.1) (State.isArrayOf_alike hZ.alike Ar_b1.2.1) Ar_b1.2.2 (own_hin S_b1 hi12) (H_b1 _ hi12.2) (g := (mkF m 137 #[.val (.ref b1), .val (.int u1), .val (.int u2), .val (.int j127_4_3), .val (.int (4 : Int32)), .val (.int j127_4_5), .unset] [(.int (u1 + (2 : Int32))), (.ref b1)])) rfl rfl (hb hby d1_137) _ ?_
      show Steps p.tables e below (T.setTop (mkF m 138 #[.val (.ref b1), .val (.int u1), .val (.int u2), .val (.int j127_4_3), .val (.int (4 : Int32)), .val (.int j127_4_5), .unset] [(.int (f_b1 (u1 + (2 : Int32)).toNatClampNeg))])) _
      refine XS.sipush X.here hx rfl (hb hby d1_138) ?_
      show Steps p.tables e below (T.setTop (mkF m 141 #[.val (.ref b1), .val (.int u1), .val (.int u2), .val (.int j127_4_3), .val (.int (4 : Int32)), .val (.int j127_4_5), .unset] [(.int (192 : Int32)), (.int (f_b1 (u1 + (2 : Int32)).toNatClampNeg))])) _
      refine XS.iand X.here hx rfl (hb hby d1_141) rfl ?_
      show Steps p.tables e below (T.setTop (mkF m 142 #[.val (.ref b1), .val (.int u1), .val (.int u2), .val (.int j127_4_3), .val (.int (4 : Int32)), .val (.int j127_4_5), .unset] [(.int ((f_b1 (u1 + (2 : Int32)).toNatClampNeg) &&& (192 : Int32)))])) _
      refine XS.sipush X.here hx rfl (hb hby d1_142) ?_
      show Steps p.tables e below (T.setTop (mkF m 145 #[.val (.ref b1), .val (.int u1), .val (.int u2), .val (.int j127_4_3), .val (.int (4 : Int32)), .val (.int j127_4_5), .unset] [(.int (128 : Int32)), (.int ((f_b1 (u1 + (2 : Int32)).toNatClampNeg) &&& (192 : Int32)))])) _
      exact k
    by_cases hc145 : ((f_b1 (u1 + (2 : Int32)).toNatClampNeg) &&& (192 : Int32)) = (128 : Int32)
    · have hi13 : ¬ (u1 + (2 : Int32)) < 0 ∧ (u1 + (2 : Int32)).toNatClampNeg < z_b1.toNatClampNeg := own_ixk i0 i1 i2 hc89 (by decide)
      refine own_go (b := T.setTop (mkF m 166 #[.val (.ref b1), .val (.int u1), .val (.int u2), .val (.int j127_4_3), .val (.int (4 : Int32)), .val (.int ((j127_4_5 <<< ((6 : Int32) &&& 31)) ||| ((f_b1 (u1 + (2 : Int32)).toNatClampNeg) &&& (63 : Int32)))), .unset] [])) (fun t k => ?_) ?_
      · show Steps p.tables e below (T.setTop (mkF m 145 #[.val (.ref b1), .val (.int u1), .val (.int u2), .val (.int j127_4_3), .val (.int (4 : Int32)), .val (.int j127_4_5), .unset] [(.int (128 : Int32)), (.int ((f_b1 (u1 + (2 : Int32)).toNatClampNeg) &&& (192 : Int32)))])) _
        refine XS.icmpYes X.here hx rfl (pc0 := 145) (pc' := 150) rfl (hb hby d1_145) rfl (teq hc145).1 (by decide) (by decide) ?_
        show Steps p.tables e below (T.setTop (mkF m 150 #[.val (.ref b1), .val (.int u1), .val (.int u2), .val (.int j127_4_3), .val (.int (4 : Int32)), .val (.int j127_4_5), .unset] [])) _
        refine XS.iload X.here hx rfl (hb hby d1_150) rfl ?_
        show Steps p.tables e below (T.setTop (mkF m 152 #[.val (.ref b1), .val (.int u1), .val (.int u2), .val (.int j127_4_3), .val (.int (4 : Int32)), .val (.int j127_4_5), .unset] [(.int j127_4_5)])) _
        refine XS.bipush X.here hx rfl (hb hby d1_152) ?_
        show Steps p.tables e below (T.setTop (mkF m 154 #[.val (.ref b1), .val (.int u1), .val (.int u2), .val (.int j127_4_3), .val (.int (4 : Int32)), .val (.int j127_4_5), .unset] [(.int (6 : Int32)), (.int j127_4_5)])) _
        refine XS.ishl X.here hx rfl (hb hby d1_154) rfl ?_
        show Steps p.tables e below (T.setTop (mkF m 155 #[.val (.ref b1), .val (.int u1), .val (.int u2), .val (.int j127_4_3), .val (.int (4 : Int32)), .val (.int j127_4_5), .unset] [(.int (j127_4_5 <<< ((6 : Int32) &&& 31)))])) _
        refine XS.aloadN X.here hx rfl (hb hby d1_155) rfl rfl ?_
        show Steps p.tables e below (T.setTop (mkF m 156 #[.val (.ref b1), .val (.int u1), .val (.int u2), .val (.int j127_4_3), .val (.int (4 : Int32)), .val (.int j127_4_5), .unset] [(.ref b1), (.int (j127_4_5 <<< ((6 : Int32) &&& 31)))])) _
        refine XS.iloadN X.here hx rfl (hb hby d1_156) rfl ?_
        show Steps p.tables e below (T.setTop (mkF m 157 #[.val (.ref b1), .val (.int u1), .val (.int u2), .val (.int j127_4_3), .val (.int (4 : Int32)), .val (.int j127_4_5), .unset] [(.int u1), (.ref b1), (.int (j127_4_5 <<< ((6 : Int32) &&& 31)))])) _
        refine XS.iconst X.here hx rfl (hb hby d1_157) ?_
        show Steps p.tables e below (T.setTop (mkF m 158 #[.val (.ref b1), .val (.int u1), .val (.int u2), .val (.int j127_4_3), .val (.int (4 : Int32)), .val (.int j127_4_5), .unset] [(.int (2 : Int32)), (.int u1), (.ref b1), (.int (j127_4_5 <<< ((6 : Int32) &&& 31)))])) _
        refine XS.iadd X.here hx rfl (hb hby d1_158) rfl ?_
        show Steps p.tables e below (T.setTop (mkF m 159 #[.val (.ref b1), .val (.int u1), .val (.int u2), .val (.int j127_4_3), .val (.int (4 : Int32)), .val (.int j127_4_5), .unset] [(.int (u1 + (2 : Int32))), (.ref b1), (.int (j127_4_5 <<< ((6 : Int32) &&& 31)))])) _
        refine X.iaload hx (j := (u1 + (2 : Int32))) (v := (.int (f_b1 (u1 + (2 : Int32)).toNatClampNeg))) (by rw [eT]; exact Ar_b1.1) (State.isArrayOf_alike hZ.alike Ar_b1.2.1) Ar_b1.2.2 (own_hin S_b1 hi13) (H_b1 _ hi13.2) (g := (mkF m 159 #[.val (.ref b1), .val (.int u1), .val (.int u2), .val (.int j127_4_3), .val (.int (4 : Int32)), .val (.int j127_4_5), .unset] [(.int (u1 + (2 : Int32))), (.ref b1), (.int (j127_4_5 <<< ((6 : Int32) &&& 31)))])) rfl rfl (hb hby d1_159) _ ?_
        show Steps p.tables e below (T.setTop (mkF m 160 #[.val (.ref b1), .val (.int u1), .val (.int u2), .val (.int j127_4_3), .val (.int (4 : Int32)), .val (.int j127_4_5), .unset] [(.int (f_b1 (u1 + (2 : Int32)).toNatClampNeg)), (.int (j127_4_5 <<< ((6 : Int32) &&& 31)))])) _
        refine XS.bipush X.here hx rfl (hb hby d1_160) ?_
        show Steps p.tables e below (T.setTop (mkF m 162 #[.val (.ref b1), .val (.int u1), .val (.int u2), .val (.int j127_4_3), .val (.int (4 : Int32)), .val (.int j127_4_5), .unset] [(.int (63 : Int32)), (.int (f_b1 (u1 + (2 : Int32)).toNatClampNeg)), (.int (j127_4_5 <<< ((6 : Int32) &&& 31)))])) _
        refine XS.iand X.here hx rfl (hb hby d1_162) rfl ?_
        show Steps p.tables e below (T.setTop (mkF m 163 #[.val (.ref b1), .val (.int u1), .val (.int u2), .val (.int j127_4_3), .val (.int (4 : Int32)), .val (.int j127_4_5), .unset] [(.int ((f_b1 (u1 + (2 : Int32)).toNatClampNeg) &&& (63 : Int32))), (.int (j127_4_5 <<< ((6 : Int32) &&& 31)))])) _
        refine XS.ior X.here hx rfl (hb hby d1_163) rfl ?_
        show Steps p.tables e below (T.setTop (mkF m 164 #[.val (.ref b1), .val (.int u1), .val (.int u2), .val (.int j127_4_3), .val (.int (4 : Int32)), .val (.int j127_4_5), .unset] [(.int ((j127_4_5 <<< ((6 : Int32) &&& 31)) ||| ((f_b1 (u1 + (2 : Int32)).toNatClampNeg) &&& (63 : Int32))))])) _
        refine XS.istore X.here hx rfl (hb hby d1_164) rfl (l' := #[.val (.ref b1), .val (.int u1), .val (.int u2), .val (.int j127_4_3), .val (.int (4 : Int32)), .val (.int ((j127_4_5 <<< ((6 : Int32) &&& 31)) ||| ((f_b1 (u1 + (2 : Int32)).toNatClampNeg) &&& (63 : Int32)))), .unset]) rfl ?_
        show Steps p.tables e below (T.setTop (mkF m 166 #[.val (.ref b1), .val (.int u1), .val (.int u2), .val (.int j127_4_3), .val (.int (4 : Int32)), .val (.int ((j127_4_5 <<< ((6 : Int32) &&& 31)) ||| ((f_b1 (u1 + (2 : Int32)).toNatClampNeg) &&& (63 : Int32)))), .unset] [])) _
        exact k
      exact J166_4 T _ X N eT j127_4_3 ((j127_4_5 <<< ((6 : Int32) &&& 31)) ||| ((f_b1 (u1 + (2 : Int32)).toNatClampNeg) &&& (63 : Int32)))  (by assumption) (by rw [hv, own_cl_127_4, if_pos hc145])
    · refine own_end X Bd.notSynchronized (v := some (.int (0 : Int32))) (fun h => by rw [Bd.returns] at h; cases h) (fun fs hr => ?_) eT ?_ (by decide) (by decide)
      · show Steps p.tables e below (T.setTop (mkF m 145 #[.val (.ref b1), .val (.int u1), .val (.int u2), .val (.int j127_4_3), .val (.int (4 : Int32)), .val (.int j127_4_5), .unset] [(.int (128 : Int32)), (.int ((f_b1 (u1 + (2 : Int32)).toNatClampNeg) &&& (192 : Int32)))])) _
        refine XS.icmpNo X.here hx rfl (hb hby d1_145) rfl (feq hc145).1 ?_
        show Steps p.tables e below (T.setTop (mkF m 148 #[.val (.ref b1), .val (.int u1), .val (.int u2), .val (.int j127_4_3), .val (.int (4 : Int32)), .val (.int j127_4_5), .unset] [])) _
        refine XS.iconst X.here hx rfl (hb hby d1_148) ?_
        show Steps p.tables e below (T.setTop (mkF m 149 #[.val (.ref b1), .val (.int u1), .val (.int u2), .val (.int j127_4_3), .val (.int (4 : Int32)), .val (.int j127_4_5), .unset] [(.int (0 : Int32))])) _
        exact retI X hx Bd.returns (hb hby d1_149) hr
      · exact ⟨by rw [hv, own_cl_127_4, if_neg hc145], N, rfl⟩
  have J127_3 : ∀ (T : State) (lc : List Loc), Stand p l e ({ frames := 0, cells := 0, slots := 0, locals := 0 } : Room) s m #[(.ref b1), (.int u1), (.int u2)] below meth c T lc 0 0 → Fr n0 lc → T.heap = h0 → ∀ (j127_3_3 : Int32) (j127_3_5 : Int32), ¬ (u2 - u1) < (3 : Int32) → own_cl_0 f_b1 u1 u2 = own_cl_127_3 f_b1 u1 u2 j127_3_3 j127_3_5 → own_Go p e below s (Q1 b1 cl_b1 f_b1 z_b1 u1 u2 h0 n0) ({ frames := 0, cells := 0, slots := 0, locals := 0 } : Room).cells ({ frames := 0, cells := 0, slots := 0, locals := 0 } : Room).slots (T.setTop (mkF m 127 #[.val (.ref b1), .val (.int u1), .val (.int u2), .val (.int j127_3_3), .val (.int (3 : Int32)), .val (.int j127_3_5), .unset] [])) := by
    intro T lc X N eT j127_3_3 j127_3_5  hc89 hv
    have hc130_14 : ¬ ((3 : Int32) < (3 : Int32)) := (by decide)
    have hi15 : ¬ (u1 + (2 : Int32)) < 0 ∧ (u1 + (2 : Int32)).toNatClampNeg < z_b1.toNatClampNeg := own_ixk i0 i1 i2 hc89 (by decide)
    refine own_go (b := T.setTop (mkF m 145 #[.val (.ref b1), .val (.int u1), .val (.int u2), .val (.int j127_3_3), .val (.int (3 : Int32)), .val (.int j127_3_5), .unset] [(.int (128 : Int32)), (.int ((f_b1 (u1 + (2 : Int32)).toNatClampNeg) &&& (192 : Int32)))])) (fun t k => ?_) ?_
    · show Steps p.tables e below (T.setTop (mkF m 127 #[.val (.ref b1), .val (.int u1), .val (.int u2), .val (.int j127_3_3), .val (.int (3 : Int32)), .val (.int j127_3_5), .unset] [])) _
      refine XS.iload X.here hx rfl (hb hby d1_127) rfl ?_
      show Steps p.tables e below (T.setTop (mkF m 129 #[.val (.ref b1), .val (.int u1), .val (.int u2), .val (.int j127_3_3), .val (.int (3 : Int32)), .val (.int j127_3_5), .unset] [(.int (3 : Int32))])) _
      refine XS.iconst X.here hx rfl (hb hby d1_129) ?_
      show Steps p.tables e below (T.setTop (mkF m 130 #[.val (.ref b1), .val (.int u1), .val (.int u2), .val (.int j127_3_3), .val (.int (3 : Int32)), .val (.int j127_3_5), .unset] [(.int (3 : Int32)), (.int (3 : Int32))])) _
      refine XS.icmpNo X.here hx rfl (hb hby d1_130) rfl (flt hc130_14).1 ?_
      show Steps p.tables e below (T.setTop (mkF m 133 #[.val (.ref b1), .val (.int u1), .val (.int u2), .val (.int j127_3_3), .val (.int (3 : Int32)), .val (.int j127_3_5), .unset] [])) _
      refine XS.aloadN X.here hx rfl (hb hby d1_133) rfl rfl ?_
      show Steps p.tables e below (T.setTop (mkF m 134 #[.val (.ref b1), .val (.int u1), .val (.int u2), .val (.int j127_3_3), .val (.int (3 : Int32)), .val (.int j127_3_5), .unset] [(.ref b1)])) _
      refine XS.iloadN X.here hx rfl (hb hby d1_134) rfl ?_
      show Steps p.tables e below (T.setTop (mkF m 135 #[.val (.ref b1), .val (.int u1), .val (.int u2), .val (.int j127_3_3), .val (.int (3 : Int32)), .val (.int j127_3_5), .unset] [(.int u1), (.ref b1)])) _
      refine XS.iconst X.here hx rfl (hb hby d1_135) ?_
      show Steps p.tables e below (T.setTop (mkF m 136 #[.val (.ref b1), .val (.int u1), .val (.int u2), .val (.int j127_3_3), .val (.int (3 : Int32)), .val (.int j127_3_5), .unset] [(.int (2 : Int32)), (.int u1), (.ref b1)])) _
      refine XS.iadd X.here hx rfl (hb hby d1_136) rfl ?_
      show Steps p.tables e below (T.setTop (mkF m 137 #[.val (.ref b1), .val (.int u1), .val (.int u2), .val (.int j127_3_3), .val (.int (3 : Int32)), .val (.int j127_3_5), .unset] [(.int (u1 + (2 : Int32))), (.ref b1)])) _
      refine X.iaload hx (j := (u1 + (2 : Int32))) (v := (.int (f_b1 (u1 + (2 : Int32)).toNatClampNeg))) (by rw [eT]; exact Ar_b1.1) (State.isArrayOf_alike hZ.alike Ar_b1.2.1) Ar_b1.2.2 (own_hin S_b1 hi15) (H_b1 _ hi15.2) (g := (mkF m 137 #[.val (.ref b1), .val (.int u1), .val (.int u2), .val (.int j127_3_3), .val (.int (3 : Int32)), .val (.int j127_3_5), .unset] [(.int (u1 + (2 : Int32))), (.ref b1)])) rfl rfl (hb hby d1_137) _ ?_
      show Steps p.tables e below (T.setTop (mkF m 138 #[.val (.ref b1), .val (.int u1), .val (.int u2), .val (.int j127_3_3), .val (.int (3 : Int32)), .val (.int j127_3_5), .unset] [(.int (f_b1 (u1 + (2 : Int32)).toNatClampNeg))])) _
      refine XS.sipush X.here hx rfl (hb hby d1_138) ?_
      show Steps p.tables e below (T.setTop (mkF m 141 #[.val (.ref b1), .val (.int u1), .val (.int u2), .val (.int j127_3_3), .val (.int (3 : Int32)), .val (.int j127_3_5), .unset] [(.int (192 : Int32)), (.int (f_b1 (u1 + (2 : Int32)).toNatClampNeg))])) _
      refine XS.iand X.here hx rfl (hb hby d1_141) rfl ?_
      show Steps p.tables e below (T.setTop (mkF m 142 #[.val (.ref b1), .val (.int u1), .val (.int u2), .val (.int j127_3_3), .val (.int (3 : Int32)), .val (.int j127_3_5), .unset] [(.int ((f_b1 (u1 + (2 : Int32)).toNatClampNeg) &&& (192 : Int32)))])) _
      refine XS.sipush X.here hx rfl (hb hby d1_142) ?_
      show Steps p.tables e below (T.setTop (mkF m 145 #[.val (.ref b1), .val (.int u1), .val (.int u2), .val (.int j127_3_3), .val (.int (3 : Int32)), .val (.int j127_3_5), .unset] [(.int (128 : Int32)), (.int ((f_b1 (u1 + (2 : Int32)).toNatClampNeg) &&& (192 : Int32)))])) _
      exact k
    by_cases hc145 : ((f_b1 (u1 + (2 : Int32)).toNatClampNeg) &&& (192 : Int32)) = (128 : Int32)
    · have hi16 : ¬ (u1 + (2 : Int32)) < 0 ∧ (u1 + (2 : Int32)).toNatClampNeg < z_b1.toNatClampNeg := own_ixk i0 i1 i2 hc89 (by decide)
      refine own_go (b := T.setTop (mkF m 166 #[.val (.ref b1), .val (.int u1), .val (.int u2), .val (.int j127_3_3), .val (.int (3 : Int32)), .val (.int ((j127_3_5 <<< ((6 : Int32) &&& 31)) ||| ((f_b1 (u1 + (2 : Int32)).toNatClampNeg) &&& (63 : Int32)))), .unset] [])) (fun t k => ?_) ?_
      · show Steps p.tables e below (T.setTop (mkF m 145 #[.val (.ref b1), .val (.int u1), .val (.int u2), .val (.int j127_3_3), .val (.int (3 : Int32)), .val (.int j127_3_5), .unset] [(.int (128 : Int32)), (.int ((f_b1 (u1 + (2 : Int32)).toNatClampNeg) &&& (192 : Int32)))])) _
        refine XS.icmpYes X.here hx rfl (pc0 := 145) (pc' := 150) rfl (hb hby d1_145) rfl (teq hc145).1 (by decide) (by decide) ?_
        show Steps p.tables e below (T.setTop (mkF m 150 #[.val (.ref b1), .val (.int u1), .val (.int u2), .val (.int j127_3_3), .val (.int (3 : Int32)), .val (.int j127_3_5), .unset] [])) _
        refine XS.iload X.here hx rfl (hb hby d1_150) rfl ?_
        show Steps p.tables e below (T.setTop (mkF m 152 #[.val (.ref b1), .val (.int u1), .val (.int u2), .val (.int j127_3_3), .val (.int (3 : Int32)), .val (.int j127_3_5), .unset] [(.int j127_3_5)])) _
        refine XS.bipush X.here hx rfl (hb hby d1_152) ?_
        show Steps p.tables e below (T.setTop (mkF m 154 #[.val (.ref b1), .val (.int u1), .val (.int u2), .val (.int j127_3_3), .val (.int (3 : Int32)), .val (.int j127_3_5), .unset] [(.int (6 : Int32)), (.int j127_3_5)])) _
        refine XS.ishl X.here hx rfl (hb hby d1_154) rfl ?_
        show Steps p.tables e below (T.setTop (mkF m 155 #[.val (.ref b1), .val (.int u1), .val (.int u2), .val (.int j127_3_3), .val (.int (3 : Int32)), .val (.int j127_3_5), .unset] [(.int (j127_3_5 <<< ((6 : Int32) &&& 31)))])) _
        refine XS.aloadN X.here hx rfl (hb hby d1_155) rfl rfl ?_
        show Steps p.tables e below (T.setTop (mkF m 156 #[.val (.ref b1), .val (.int u1), .val (.int u2), .val (.int j127_3_3), .val (.int (3 : Int32)), .val (.int j127_3_5), .unset] [(.ref b1), (.int (j127_3_5 <<< ((6 : Int32) &&& 31)))])) _
        refine XS.iloadN X.here hx rfl (hb hby d1_156) rfl ?_
        show Steps p.tables e below (T.setTop (mkF m 157 #[.val (.ref b1), .val (.int u1), .val (.int u2), .val (.int j127_3_3), .val (.int (3 : Int32)), .val (.int j127_3_5), .unset] [(.int u1), (.ref b1), (.int (j127_3_5 <<< ((6 : Int32) &&& 31)))])) _
        refine XS.iconst X.here hx rfl (hb hby d1_157) ?_
        show Steps p.tables e below (T.setTop (mkF m 158 #[.val (.ref b1), .val (.int u1), .val (.int u2), .val (.int j127_3_3), .val (.int (3 : Int32)), .val (.int j127_3_5), .unset] [(.int (2 : Int32)), (.int u1), (.ref b1), (.int (j127_3_5 <<< ((6 : Int32) &&& 31)))])) _
        refine XS.iadd X.here hx rfl (hb hby d1_158) rfl ?_
        show Steps p.tables e below (T.setTop (mkF m 159 #[.val (.ref b1), .val (.int u1), .val (.int u2), .val (.int j127_3_3), .val (.int (3 : Int32)), .val (.int j127_3_5), .unset] [(.int (u1 + (2 : Int32))), (.ref b1), (.int (j127_3_5 <<< ((6 : Int32) &&& 31)))])) _
        refine X.iaload hx (j := (u1 + (2 : Int32))) (v := (.int (f_b1 (u1 + (2 : Int32)).toNatClampNeg))) (by rw [eT]; exact Ar_b1.1) (State.isArrayOf_alike hZ.alike Ar_b1.2.1) Ar_b1.2.2 (own_hin S_b1 hi16) (H_b1 _ hi16.2) (g := (mkF m 159 #[.val (.ref b1), .val (.int u1), .val (.int u2), .val (.int j127_3_3), .val (.int (3 : Int32)), .val (.int j127_3_5), .unset] [(.int (u1 + (2 : Int32))), (.ref b1), (.int (j127_3_5 <<< ((6 : Int32) &&& 31)))])) rfl rfl (hb hby d1_159) _ ?_
        show Steps p.tables e below (T.setTop (mkF m 160 #[.val (.ref b1), .val (.int u1), .val (.int u2), .val (.int j127_3_3), .val (.int (3 : Int32)), .val (.int j127_3_5), .unset] [(.int (f_b1 (u1 + (2 : Int32)).toNatClampNeg)), (.int (j127_3_5 <<< ((6 : Int32) &&& 31)))])) _
        refine XS.bipush X.here hx rfl (hb hby d1_160) ?_
        show Steps p.tables e below (T.setTop (mkF m 162 #[.val (.ref b1), .val (.int u1), .val (.int u2), .val (.int j127_3_3), .val (.int (3 : Int32)), .val (.int j127_3_5), .unset] [(.int (63 : Int32)), (.int (f_b1 (u1 + (2 : Int32)).toNatClampNeg)), (.int (j127_3_5 <<< ((6 : Int32) &&& 31)))])) _
        refine XS.iand X.here hx rfl (hb hby d1_162) rfl ?_
        show Steps p.tables e below (T.setTop (mkF m 163 #[.val (.ref b1), .val (.int u1), .val (.int u2), .val (.int j127_3_3), .val (.int (3 : Int32)), .val (.int j127_3_5), .unset] [(.int ((f_b1 (u1 + (2 : Int32)).toNatClampNeg) &&& (63 : Int32))), (.int (j127_3_5 <<< ((6 : Int32) &&& 31)))])) _
        refine XS.ior X.here hx rfl (hb hby d1_163) rfl ?_
        show Steps p.tables e below (T.setTop (mkF m 164 #[.val (.ref b1), .val (.int u1), .val (.int u2), .val (.int j127_3_3), .val (.int (3 : Int32)), .val (.int j127_3_5), .unset] [(.int ((j127_3_5 <<< ((6 : Int32) &&& 31)) ||| ((f_b1 (u1 + (2 : Int32)).toNatClampNeg) &&& (63 : Int32))))])) _
        refine XS.istore X.here hx rfl (hb hby d1_164) rfl (l' := #[.val (.ref b1), .val (.int u1), .val (.int u2), .val (.int j127_3_3), .val (.int (3 : Int32)), .val (.int ((j127_3_5 <<< ((6 : Int32) &&& 31)) ||| ((f_b1 (u1 + (2 : Int32)).toNatClampNeg) &&& (63 : Int32)))), .unset]) rfl ?_
        show Steps p.tables e below (T.setTop (mkF m 166 #[.val (.ref b1), .val (.int u1), .val (.int u2), .val (.int j127_3_3), .val (.int (3 : Int32)), .val (.int ((j127_3_5 <<< ((6 : Int32) &&& 31)) ||| ((f_b1 (u1 + (2 : Int32)).toNatClampNeg) &&& (63 : Int32)))), .unset] [])) _
        exact k
      exact J166_3 T _ X N eT j127_3_3 ((j127_3_5 <<< ((6 : Int32) &&& 31)) ||| ((f_b1 (u1 + (2 : Int32)).toNatClampNeg) &&& (63 : Int32)))  (by assumption) (by rw [hv, own_cl_127_3, if_pos hc145])
    · refine own_end X Bd.notSynchronized (v := some (.int (0 : Int32))) (fun h => by rw [Bd.returns] at h; cases h) (fun fs hr => ?_) eT ?_ (by decide) (by decide)
      · show Steps p.tables e below (T.setTop (mkF m 145 #[.val (.ref b1), .val (.int u1), .val (.int u2), .val (.int j127_3_3), .val (.int (3 : Int32)), .val (.int j127_3_5), .unset] [(.int (128 : Int32)), (.int ((f_b1 (u1 + (2 : Int32)).toNatClampNeg) &&& (192 : Int32)))])) _
        refine XS.icmpNo X.here hx rfl (hb hby d1_145) rfl (feq hc145).1 ?_
        show Steps p.tables e below (T.setTop (mkF m 148 #[.val (.ref b1), .val (.int u1), .val (.int u2), .val (.int j127_3_3), .val (.int (3 : Int32)), .val (.int j127_3_5), .unset] [])) _
        refine XS.iconst X.here hx rfl (hb hby d1_148) ?_
        show Steps p.tables e below (T.setTop (mkF m 149 #[.val (.ref b1), .val (.int u1), .val (.int u2), .val (.int j127_3_3), .val (.int (3 : Int32)), .val (.int j127_3_5), .unset] [(.int (0 : Int32))])) _
        exact retI X hx Bd.returns (hb hby d1_149) hr
      · exact ⟨by rw [hv, own_cl_127_3, if_neg hc145], N, rfl⟩
  have J127_2 : ∀ (T : State) (lc : List Loc), Stand p l e ({ frames := 0, cells := 0, slots := 0, locals := 0 } : Room) s m #[(.ref b1), (.int u1), (.int u2)] below meth c T lc 0 0 → Fr n0 lc → T.heap = h0 → ∀ (j127_2_3 : Int32) (j127_2_5 : Int32), ¬ (u2 - u1) < (2 : Int32) → own_cl_0 f_b1 u1 u2 = own_cl_127_2 f_b1 u1 u2 j127_2_3 j127_2_5 → own_Go p e below s (Q1 b1 cl_b1 f_b1 z_b1 u1 u2 h0 n0) ({ frames := 0, cells := 0, slots := 0, locals := 0 } : Room).cells ({ frames := 0, cells := 0, slots := 0, locals := 0 } : Room).slots (T.setTop (mkF m 127 #[.val (.ref b1), .val (.int u1), .val (.int u2), .val (.int j127_2_3), .val (.int (2 : Int32)), .val (.int j127_2_5), .unset] [])) := by
    intro T lc X N eT j127_2_3 j127_2_5  hc89 hv
    have hc130_17 : (2 : Int32) < (3 : Int32) := (by decide)
    refine own_go (b := T.setTop (mkF m 166 #[.val (.ref b1), .val (.int u1), .val (.int u2), .val (.int j127_2_3), .val (.int (2 : Int32)), .val (.int j127_2_5), .unset] [])) (fun t k => ?_) ?_
    · show Steps p.tables e below (T.setTop (mkF m 127 #[.val (.ref b1), .val (.int u1), .val (.int u2), .val (.int j127_2_3), .val (.int (2 : Int32)), .val (.int j127_2_5), .unset] [])) _
      refine XS.iload X.here hx rfl (hb hby d1_127) rfl ?_
      show Steps p.tables e below (T.setTop (mkF m 129 #[.val (.ref b1), .val (.int u1), .val (.int u2), .val (.int j127_2_3), .val (.int (2 : Int32)), .val (.int j127_2_5), .unset] [(.int (2 : Int32))])) _
      refine XS.iconst X.here hx rfl (hb hby d1_129) ?_
      show Steps p.tables e below (T.setTop (mkF m 130 #[.val (.ref b1), .val (.int u1), .val (.int u2), .val (.int j127_2_3), .val (.int (2 : Int32)), .val (.int j127_2_5), .unset] [(.int (3 : Int32)), (.int (2 : Int32))])) _
      refine XS.icmpYes X.here hx rfl (pc0 := 130) (pc' := 166) rfl (hb hby d1_130) rfl (tlt hc130_17).1 (by decide) (by decide) ?_
      show Steps p.tables e below (T.setTop (mkF m 166 #[.val (.ref b1), .val (.int u1), .val (.int u2), .val (.int j127_2_3), .val (.int (2 : Int32)), .val (.int j127_2_5), .unset] [])) _
      exact k
    exact J166_2 T _ X N eT j127_2_3 j127_2_5  (by assumption) (by rw [hv, own_cl_127_2])
  have J84_4 : ∀ (T : State) (lc : List Loc), Stand p l e ({ frames := 0, cells := 0, slots := 0, locals := 0 } : Room) s m #[(.ref b1), (.int u1), (.int u2)] below meth c T lc 0 0 → Fr n0 lc → T.heap = h0 → ∀ (j84_4_3 : Int32) (j84_4_5 : Int32), own_cl_0 f_b1 u1 u2 = own_cl_84_4 f_b1 u1 u2 j84_4_3 j84_4_5 → own_Go p e below s (Q1 b1 cl_b1 f_b1 z_b1 u1 u2 h0 n0) ({ frames := 0, cells := 0, slots := 0, locals := 0 } : Room).cells ({ frames := 0, cells := 0, slots := 0, locals := 0 } : Room).slots (T.setTop (mkF m 84 #[.val (.ref b1), .val (.int u1), .val (.int u2), .val (.int j84_4_3), .val (.int (4 : Int32)), .val (.int j84_4_5), .unset] [])) := by
    intro T lc X N eT j84_4_3 j84_4_5   hv
    refine own_go (b := T.setTop (mkF m 89 #[.val (.ref b1), .val (.int u1), .val (.int u2), .val (.int j84_4_3), .val (.int (4 : Int32)), .val (.int j84_4_5), .unset] [(.int (4 : Int32)), (.int (u2 - u1))])) (fun t k => ?_) ?_
    · show Steps p.tables e below (T.setTop (mkF m 84 #[.val (.ref b1), .val (.int u1), .val (.int u2), .val (.int j84_4_3), .val (.int (4 : Int32)), .val (.int j84_4_5), .unset] [])) _
      refine XS.iloadN X.here hx rfl (hb hby d1_84) rfl ?_
      show Steps p.tables e below (T.setTop (mkF m 85 #[.val (.ref b1), .val (.int u1), .val (.int u2), .val (.int j84_4_3), .val (.int (4 : Int32)), .val (.int j84_4_5), .unset] [(.int u2)])) _
      refine XS.iloadN X.here hx rfl (hb hby d1_85) rfl ?_
      show Steps p.tables e below (T.setTop (mkF m 86 #[.val (.ref b1), .val (.int u1), .val (.int u2), .val (.int j84_4_3), .val (.int (4 : Int32)), .val (.int j84_4_5), .unset] [(.int u1), (.int u2)])) _
      refine XS.isub X.here hx rfl (hb hby d1_86) rfl ?_
      show Steps p.tables e below (T.setTop (mkF m 87 #[.val (.ref b1), .val (.int u1), .val (.int u2), .val (.int j84_4_3), .val (.int (4 : Int32)), .val (.int j84_4_5), .unset] [(.int (u2 - u1))])) _
      refine XS.iload X.here hx rfl (hb hby d1_87) rfl ?_
      show Steps p.tables e below (T.setTop (mkF m 89 #[.val (.ref b1), .val (.int u1), .val (.int u2), .val (.int j84_4_3), .val (.int (4 : Int32)), .val (.int j84_4_5), .unset] [(.int (4 : Int32)), (.int (u2 - u1))])) _
      exact k
    by_cases hc89 : (u2 - u1) < (4 : Int32)
    · refine own_end X Bd.notSynchronized (v := some (.int (0 : Int32))) (fun h => by rw [Bd.returns] at h; cases h) (fun fs hr => ?_) eT ?_ (by decide) (by decide)
      · show Steps p.tables e below (T.setTop (mkF m 89 #[.val (.ref b1), .val (.int u1), .val (.int u2), .val (.int j84_4_3), .val (.int (4 : Int32)), .val (.int j84_4_5), .unset] [(.int (4 : Int32)), (.int (u2 - u1))])) _
        refine XS.icmpNo X.here hx rfl (hb hby d1_89) rfl (tlt hc89).2.1 ?_
        show Steps p.tables e below (T.setTop (mkF m 92 #[.val (.ref b1), .val (.int u1), .val (.int u2), .val (.int j84_4_3), .val (.int (4 : Int32)), .val (.int j84_4_5), .unset] [])) _
        refine XS.iconst X.here hx rfl (hb hby d1_92) ?_
        show Steps p.tables e below (T.setTop (mkF m 93 #[.val (.ref b1), .val (.int u1), .val (.int u2), .val (.int j84_4_3), .val (.int (4 : Int32)), .val (.int j84_4_5), .unset] [(.int (0 : Int32))])) _
        exact retI X hx Bd.returns (hb hby d1_93) hr
      · exact ⟨by rw [hv, own_cl_84_4, if_pos hc89], N, rfl⟩
    · have hi18 : ¬ (u1 + (1 : Int32)) < 0 ∧ (u1 + (1 : Int32)).toNatClampNeg < z_b1.toNatClampNeg := own_ixk i0 i1 i2 hc89 (by decide)
      refine own_go (b := T.setTop (mkF m 106 #[.val (.ref b1), .val (.int u1), .val (.int u2), .val (.int j84_4_3), .val (.int (4 : Int32)), .val (.int j84_4_5), .unset] [(.int (128 : Int32)), (.int ((f_b1 (u1 + (1 : Int32)).toNatClampNeg) &&& (192 : Int32)))])) (fun t k => ?_) ?_
      · show Steps p.tables e below (T.setTop (mkF m 89 #[.val (.ref b1), .val (.int u1), .val (.int u2), .val (.int j84_4_3), .val (.int (4 : Int32)), .val (.int j84_4_5), .unset] [(.int (4 : Int32)), (.int (u2 - u1))])) _
        refine XS.icmpYes X.here hx rfl (pc0 := 89) (pc' := 94) rfl (hb hby d1_89) rfl (flt hc89).2.1 (by decide) (by decide) ?_
        show Steps p.tables e below (T.setTop (mkF m 94 #[.val (.ref b1), .val (.int u1), .val (.int u2), .val (.int j84_4_3), .val (.int (4 : Int32)), .val (.int j84_4_5), .unset] [])) _
        refine XS.aloadN X.here hx rfl (hb hby d1_94) rfl rfl ?_
        show Steps p.tables e below (T.setTop (mkF m 95 #[.val (.ref b1), .val (.int u1), .val (.int u2), .val (.int j84_4_3), .val (.int (4 : Int32)), .val (.int j84_4_5), .unset] [(.ref b1)])) _
        refine XS.iloadN X.here hx rfl (hb hby d1_95) rfl ?_
        show Steps p.tables e below (T.setTop (mkF m 96 #[.val (.ref b1), .val (.int u1), .val (.int u2), .val (.int j84_4_3), .val (.int (4 : Int32)), .val (.int j84_4_5), .unset] [(.int u1), (.ref b1)])) _
        refine XS.iconst X.here hx rfl (hb hby d1_96) ?_
        show Steps p.tables e below (T.setTop (mkF m 97 #[.val (.ref b1), .val (.int u1), .val (.int u2), .val (.int j84_4_3), .val (.int (4 : Int32)), .val (.int j84_4_5), .unset] [(.int (1 : Int32)), (.int u1), (.ref b1)])) _
        refine XS.iadd X.here hx rfl (hb hby d1_97) rfl ?_
        show Steps p.tables e below (T.setTop (mkF m 98 #[.val (.ref b1), .val (.int u1), .val (.int u2), .val (.int j84_4_3), .val (.int (4 : Int32)), .val (.int j84_4_5), .unset] [(.int (u1 + (1 : Int32))), (.ref b1)])) _
        refine X.iaload hx (j := (u1 + (1 : Int32))) (v := (.int (f_b1 (u1 + (1 : Int32)).toNatClampNeg))) (by rw [eT]; exact Ar_b1.1) (State.isArrayOf_alike hZ.alike Ar_b1.2.1) Ar_b1.2.2 (own_hin S_b1 hi18) (H_b1 _ hi18.2) (g := (mkF m 98 #[.val (.ref b1), .val (.int u1), .val (.int u2), .val (.int j84_4_3), .val (.int (4 : Int32)), .val (.int j84_4_5), .unset] [(.int (u1 + (1 : Int32))), (.ref b1)])) rfl rfl (hb hby d1_98) _ ?_
        show Steps p.tables e below (T.setTop (mkF m 99 #[.val (.ref b1), .val (.int u1), .val (.int u2), .val (.int j84_4_3), .val (.int (4 : Int32)), .val (.int j84_4_5), .unset] [(.int (f_b1 (u1 + (1 : Int32)).toNatClampNeg))])) _
        refine XS.sipush X.here hx rfl (hb hby d1_99) ?_
        show Steps p.tables e below (T.setTop (mkF m 102 #[.val (.ref b1), .val (.int u1), .val (.int u2), .val (.int j84_4_3), .val (.int (4 : Int32)), .val (.int j84_4_5), .unset] [(.int (192 : Int32)), (.int (f_b1 (u1 + (1 : Int32)).toNatClampNeg))])) _
        refine XS.iand X.here hx rfl (hb hby d1_102) rfl ?_
        show Steps p.tables e below (T.setTop (mkF m 103 #[.val (.ref b1), .val (.int u1), .val (.int u2), .val (.int j84_4_3), .val (.int (4 : Int32)), .val (.int j84_4_5), .unset] [(.int ((f_b1 (u1 + (1 : Int32)).toNatClampNeg) &&& (192 : Int32)))])) _
        refine XS.sipush X.here hx rfl (hb hby d1_103) ?_
        show Steps p.tables e below (T.setTop (mkF m 106 #[.val (.ref b1), .val (.int u1), .val (.int u2), .val (.int j84_4_3), .val (.int (4 : Int32)), .val (.int j84_4_5), .unset] [(.int (128 : Int32)), (.int ((f_b1 (u1 + (1 : Int32)).toNatClampNeg) &&& (192 : Int32)))])) _
        exact k
      by_cases hc106 : ((f_b1 (u1 + (1 : Int32)).toNatClampNeg) &&& (192 : Int32)) = (128 : Int32)
      · have hi19 : ¬ (u1 + (1 : Int32)) < 0 ∧ (u1 + (1 : Int32)).toNatClampNeg < z_b1.toNatClampNeg := own_ixk i0 i1 i2 hc89 (by decide)
        refine own_go (b := T.setTop (mkF m 127 #[.val (.ref b1), .val (.int u1), .val (.int u2), .val (.int j84_4_3), .val (.int (4 : Int32)), .val (.int ((j84_4_5 <<< ((6 : Int32) &&& 31)) ||| ((f_b1 (u1 + (1 : Int32)).toNatClampNeg) &&& (63 : Int32)))), .unset] [])) (fun t k => ?_) ?_
        · show Steps p.tables e below (T.setTop (mkF m 106 #[.val (.ref b1), .val (.int u1), .val (.int u2), .val (.int j84_4_3), .val (.int (4 : Int32)), .val (.int j84_4_5), .unset] [(.int (128 : Int32)), (.int ((f_b1 (u1 + (1 : Int32)).toNatClampNeg) &&& (192 : Int32)))])) _
          refine XS.icmpYes X.here hx rfl (pc0 := 106) (pc' := 111) rfl (hb hby d1_106) rfl (teq hc106).1 (by decide) (by decide) ?_
          show Steps p.tables e below (T.setTop (mkF m 111 #[.val (.ref b1), .val (.int u1), .val (.int u2), .val (.int j84_4_3), .val (.int (4 : Int32)), .val (.int j84_4_5), .unset] [])) _
          refine XS.iload X.here hx rfl (hb hby d1_111) rfl ?_
          show Steps p.tables e below (T.setTop (mkF m 113 #[.val (.ref b1), .val (.int u1), .val (.int u2), .val (.int j84_4_3), .val (.int (4 : Int32)), .val (.int j84_4_5), .unset] [(.int j84_4_5)])) _
          refine XS.bipush X.here hx rfl (hb hby d1_113) ?_
          show Steps p.tables e below (T.setTop (mkF m 115 #[.val (.ref b1), .val (.int u1), .val (.int u2), .val (.int j84_4_3), .val (.int (4 : Int32)), .val (.int j84_4_5), .unset] [(.int (6 : Int32)), (.int j84_4_5)])) _
          refine XS.ishl X.here hx rfl (hb hby d1_115) rfl ?_
          show Steps p.tables e below (T.setTop (mkF m 116 #[.val (.ref b1), .val (.int u1), .val (.int u2), .val (.int j84_4_3), .val (.int (4 : Int32)), .val (.int j84_4_5), .unset] [(.int (j84_4_5 <<< ((6 : Int32) &&& 31)))])) _
          refine XS.aloadN X.here hx rfl (hb hby d1_116) rfl rfl ?_
          show Steps p.tables e below (T.setTop (mkF m 117 #[.val (.ref b1), .val (.int u1), .val (.int u2), .val (.int j84_4_3), .val (.int (4 : Int32)), .val (.int j84_4_5), .unset] [(.ref b1), (.int (j84_4_5 <<< ((6 : Int32) &&& 31)))])) _
          refine XS.iloadN X.here hx rfl (hb hby d1_117) rfl ?_
          show Steps p.tables e below (T.setTop (mkF m 118 #[.val (.ref b1), .val (.int u1), .val (.int u2), .val (.int j84_4_3), .val (.int (4 : Int32)), .val (.int j84_4_5), .unset] [(.int u1), (.ref b1), (.int (j84_4_5 <<< ((6 : Int32) &&& 31)))])) _
          refine XS.iconst X.here hx rfl (hb hby d1_118) ?_
          show Steps p.tables e below (T.setTop (mkF m 119 #[.val (.ref b1), .val (.int u1), .val (.int u2), .val (.int j84_4_3), .val (.int (4 : Int32)), .val (.int j84_4_5), .unset] [(.int (1 : Int32)), (.int u1), (.ref b1), (.int (j84_4_5 <<< ((6 : Int32) &&& 31)))])) _
          refine XS.iadd X.here hx rfl (hb hby d1_119) rfl ?_
          show Steps p.tables e below (T.setTop (mkF m 120 #[.val (.ref b1), .val (.int u1), .val (.int u2), .val (.int j84_4_3), .val (.int (4 : Int32)), .val (.int j84_4_5), .unset] [(.int (u1 + (1 : Int32))), (.ref b1), (.int (j84_4_5 <<< ((6 : Int32) &&& 31)))])) _
          refine X.iaload hx (j := (u1 + (1 : Int32))) (v := (.int (f_b1 (u1 + (1 : Int32)).toNatClampNeg))) (by rw [eT]; exact Ar_b1.1) (State.isArrayOf_alike hZ.alike Ar_b1.2.1) Ar_b1.2.2 (own_hin S_b1 hi19) (H_b1 _ hi19.2) (g := (mkF m 120 #[.val (.ref b1), .val (.int u1), .val (.int u2), .val (.int j84_4_3), .val (.int (4 : Int32)), .val (.int j84_4_5), .unset] [(.int (u1 + (1 : Int32))), (.ref b1), (.int (j84_4_5 <<< ((6 : Int32) &&& 31)))])) rfl rfl (hb hby d1_120) _ ?_
          show Steps p.tables e below (T.setTop (mkF m 121 #[.val (.ref b1), .val (.int u1), .val (.int u2), .val (.int j84_4_3), .val (.int (4 : Int32)), .val (.int j84_4_5), .unset] [(.int (f_b1 (u1 + (1 : Int32)).toNatClampNeg)), (.int (j84_4_5 <<< ((6 : Int32) &&& 31)))])) _
          refine XS.bipush X.here hx rfl (hb hby d1_121) ?_
          show Steps p.tables e below (T.setTop (mkF m 123 #[.val (.ref b1), .val (.int u1), .val (.int u2), .val (.int j84_4_3), .val (.int (4 : Int32)), .val (.int j84_4_5), .unset] [(.int (63 : Int32)), (.int (f_b1 (u1 + (1 : Int32)).toNatClampNeg)), (.int (j84_4_5 <<< ((6 : Int32) &&& 31)))])) _
          refine XS.iand X.here hx rfl (hb hby d1_123) rfl ?_
          show Steps p.tables e below (T.setTop (mkF m 124 #[.val (.ref b1), .val (.int u1), .val (.int u2), .val (.int j84_4_3), .val (.int (4 : Int32)), .val (.int j84_4_5), .unset] [(.int ((f_b1 (u1 + (1 : Int32)).toNatClampNeg) &&& (63 : Int32))), (.int (j84_4_5 <<< ((6 : Int32) &&& 31)))])) _
          refine XS.ior X.here hx rfl (hb hby d1_124) rfl ?_
          show Steps p.tables e below (T.setTop (mkF m 125 #[.val (.ref b1), .val (.int u1), .val (.int u2), .val (.int j84_4_3), .val (.int (4 : Int32)), .val (.int j84_4_5), .unset] [(.int ((j84_4_5 <<< ((6 : Int32) &&& 31)) ||| ((f_b1 (u1 + (1 : Int32)).toNatClampNeg) &&& (63 : Int32))))])) _
          refine XS.istore X.here hx rfl (hb hby d1_125) rfl (l' := #[.val (.ref b1), .val (.int u1), .val (.int u2), .val (.int j84_4_3), .val (.int (4 : Int32)), .val (.int ((j84_4_5 <<< ((6 : Int32) &&& 31)) ||| ((f_b1 (u1 + (1 : Int32)).toNatClampNeg) &&& (63 : Int32)))), .unset]) rfl ?_
          show Steps p.tables e below (T.setTop (mkF m 127 #[.val (.ref b1), .val (.int u1), .val (.int u2), .val (.int j84_4_3), .val (.int (4 : Int32)), .val (.int ((j84_4_5 <<< ((6 : Int32) &&& 31)) ||| ((f_b1 (u1 + (1 : Int32)).toNatClampNeg) &&& (63 : Int32)))), .unset] [])) _
          exact k
        exact J127_4 T _ X N eT j84_4_3 ((j84_4_5 <<< ((6 : Int32) &&& 31)) ||| ((f_b1 (u1 + (1 : Int32)).toNatClampNeg) &&& (63 : Int32)))  (by assumption) (by rw [hv, own_cl_84_4, if_neg hc89, if_pos hc106])
      · refine own_end X Bd.notSynchronized (v := some (.int (0 : Int32))) (fun h => by rw [Bd.returns] at h; cases h) (fun fs hr => ?_) eT ?_ (by decide) (by decide)
        · show Steps p.tables e below (T.setTop (mkF m 106 #[.val (.ref b1), .val (.int u1), .val (.int u2), .val (.int j84_4_3), .val (.int (4 : Int32)), .val (.int j84_4_5), .unset] [(.int (128 : Int32)), (.int ((f_b1 (u1 + (1 : Int32)).toNatClampNeg) &&& (192 : Int32)))])) _
          refine XS.icmpNo X.here hx rfl (hb hby d1_106) rfl (feq hc106).1 ?_
          show Steps p.tables e below (T.setTop (mkF m 109 #[.val (.ref b1), .val (.int u1), .val (.int u2), .val (.int j84_4_3), .val (.int (4 : Int32)), .val (.int j84_4_5), .unset] [])) _
          refine XS.iconst X.here hx rfl (hb hby d1_109) ?_
          show Steps p.tables e below (T.setTop (mkF m 110 #[.val (.ref b1), .val (.int u1), .val (.int u2), .val (.int j84_4_3), .val (.int (4 : Int32)), .val (.int j84_4_5), .unset] [(.int (0 : Int32))])) _
          exact retI X hx Bd.returns (hb hby d1_110) hr
        · exact ⟨by rw [hv, own_cl_84_4, if_neg hc89, if_neg hc106], N, rfl⟩
  have J84_3 : ∀ (T : State) (lc : List Loc), Stand p l e ({ frames := 0, cells := 0, slots := 0, locals := 0 } : Room) s m #[(.ref b1), (.int u1), (.int u2)] below meth c T lc 0 0 → Fr n0 lc → T.heap = h0 → ∀ (j84_3_3 : Int32) (j84_3_5 : Int32), own_cl_0 f_b1 u1 u2 = own_cl_84_3 f_b1 u1 u2 j84_3_3 j84_3_5 → own_Go p e below s (Q1 b1 cl_b1 f_b1 z_b1 u1 u2 h0 n0) ({ frames := 0, cells := 0, slots := 0, locals := 0 } : Room).cells ({ frames := 0, cells := 0, slots := 0, locals := 0 } : Room).slots (T.setTop (mkF m 84 #[.val (.ref b1), .val (.int u1), .val (.int u2), .val (.int j84_3_3), .val (.int (3 : Int32)), .val (.int j84_3_5), .unset] [])) := by
    intro T lc X N eT j84_3_3 j84_3_5   hv
    refine own_go (b := T.setTop (mkF m 89 #[.val (.ref b1), .val (.int u1), .val (.int u2), .val (.int j84_3_3), .val (.int (3 : Int32)), .val (.int j84_3_5), .unset] [(.int (3 : Int32)), (.int (u2 - u1))])) (fun t k => ?_) ?_
    · show Steps p.tables e below (T.setTop (mkF m 84 #[.val (.ref b1), .val (.int u1), .val (.int u2), .val (.int j84_3_3), .val (.int (3 : Int32)), .val (.int j84_3_5), .unset] [])) _
      refine XS.iloadN X.here hx rfl (hb hby d1_84) rfl ?_
      show Steps p.tables e below (T.setTop (mkF m 85 #[.val (.ref b1), .val (.int u1), .val (.int u2), .val (.int j84_3_3), .val (.int (3 : Int32)), .val (.int j84_3_5), .unset] [(.int u2)])) _
      refine XS.iloadN X.here hx rfl (hb hby d1_85) rfl ?_
      show Steps p.tables e below (T.setTop (mkF m 86 #[.val (.ref b1), .val (.int u1), .val (.int u2), .val (.int j84_3_3), .val (.int (3 : Int32)), .val (.int j84_3_5), .unset] [(.int u1), (.int u2)])) _
      refine XS.isub X.here hx rfl (hb hby d1_86) rfl ?_
      show Steps p.tables e below (T.setTop (mkF m 87 #[.val (.ref b1), .val (.int u1), .val (.int u2), .val (.int j84_3_3), .val (.int (3 : Int32)), .val (.int j84_3_5), .unset] [(.int (u2 - u1))])) _
      refine XS.iload X.here hx rfl (hb hby d1_87) rfl ?_
      show Steps p.tables e below (T.setTop (mkF m 89 #[.val (.ref b1), .val (.int u1), .val (.int u2), .val (.int j84_3_3), .val (.int (3 : Int32)), .val (.int j84_3_5), .unset] [(.int (3 : Int32)), (.int (u2 - u1))])) _
      exact k
    by_cases hc89 : (u2 - u1) < (3 : Int32)
    · refine own_end X Bd.notSynchronized (v := some (.int (0 : Int32))) (fun h => by rw [Bd.returns] at h; cases h) (fun fs hr => ?_) eT ?_ (by decide) (by decide)
      · show Steps p.tables e below (T.setTop (mkF m 89 #[.val (.ref b1), .val (.int u1), .val (.int u2), .val (.int j84_3_3), .val (.int (3 : Int32)), .val (.int j84_3_5), .unset] [(.int (3 : Int32)), (.int (u2 - u1))])) _
        refine XS.icmpNo X.here hx rfl (hb hby d1_89) rfl (tlt hc89).2.1 ?_
        show Steps p.tables e below (T.setTop (mkF m 92 #[.val (.ref b1), .val (.int u1), .val (.int u2), .val (.int j84_3_3), .val (.int (3 : Int32)), .val (.int j84_3_5), .unset] [])) _
        refine XS.iconst X.here hx rfl (hb hby d1_92) ?_
        show Steps p.tables e below (T.setTop (mkF m 93 #[.val (.ref b1), .val (.int u1), .val (.int u2), .val (.int j84_3_3), .val (.int (3 : Int32)), .val (.int j84_3_5), .unset] [(.int (0 : Int32))])) _
        exact retI X hx Bd.returns (hb hby d1_93) hr
      · exact ⟨by rw [hv, own_cl_84_3, if_pos hc89], N, rfl⟩
    · have hi20 : ¬ (u1 + (1 : Int32)) < 0 ∧ (u1 + (1 : Int32)).toNatClampNeg < z_b1.toNatClampNeg := own_ixk i0 i1 i2 hc89 (by decide)
      refine own_go (b := T.setTop (mkF m 106 #[.val (.ref b1), .val (.int u1), .val (.int u2), .val (.int j84_3_3), .val (.int (3 : Int32)), .val (.int j84_3_5), .unset] [(.int (128 : Int32)), (.int ((f_b1 (u1 + (1 : Int32)).toNatClampNeg) &&& (192 : Int32)))])) (fun t k => ?_) ?_
      · show Steps p.tables e below (T.setTop (mkF m 89 #[.val (.ref b1), .val (.int u1), .val (.int u2), .val (.int j84_3_3), .val (.int (3 : Int32)), .val (.int j84_3_5), .unset] [(.int (3 : Int32)), (.int (u2 - u1))])) _
        refine XS.icmpYes X.here hx rfl (pc0 := 89) (pc' := 94) rfl (hb hby d1_89) rfl (flt hc89).2.1 (by decide) (by decide) ?_
        show Steps p.tables e below (T.setTop (mkF m 94 #[.val (.ref b1), .val (.int u1), .val (.int u2), .val (.int j84_3_3), .val (.int (3 : Int32)), .val (.int j84_3_5), .unset] [])) _
        refine XS.aloadN X.here hx rfl (hb hby d1_94) rfl rfl ?_
        show Steps p.tables e below (T.setTop (mkF m 95 #[.val (.ref b1), .val (.int u1), .val (.int u2), .val (.int j84_3_3), .val (.int (3 : Int32)), .val (.int j84_3_5), .unset] [(.ref b1)])) _
        refine XS.iloadN X.here hx rfl (hb hby d1_95) rfl ?_
        show Steps p.tables e below (T.setTop (mkF m 96 #[.val (.ref b1), .val (.int u1), .val (.int u2), .val (.int j84_3_3), .val (.int (3 : Int32)), .val (.int j84_3_5), .unset] [(.int u1), (.ref b1)])) _
        refine XS.iconst X.here hx rfl (hb hby d1_96) ?_
        show Steps p.tables e below (T.setTop (mkF m 97 #[.val (.ref b1), .val (.int u1), .val (.int u2), .val (.int j84_3_3), .val (.int (3 : Int32)), .val (.int j84_3_5), .unset] [(.int (1 : Int32)), (.int u1), (.ref b1)])) _
        refine XS.iadd X.here hx rfl (hb hby d1_97) rfl ?_
        show Steps p.tables e below (T.setTop (mkF m 98 #[.val (.ref b1), .val (.int u1), .val (.int u2), .val (.int j84_3_3), .val (.int (3 : Int32)), .val (.int j84_3_5), .unset] [(.int (u1 + (1 : Int32))), (.ref b1)])) _
        refine X.iaload hx (j := (u1 + (1 : Int32))) (v := (.int (f_b1 (u1 + (1 : Int32)).toNatClampNeg))) (by rw [eT]; exact Ar_b1.1) (State.isArrayOf_alike hZ.alike Ar_b1.2.1) Ar_b1.2.2 (own_hin S_b1 hi20) (H_b1 _ hi20.2) (g := (mkF m 98 #[.val (.ref b1), .val (.int u1), .val (.int u2), .val (.int j84_3_3), .val (.int (3 : Int32)), .val (.int j84_3_5), .unset] [(.int (u1 + (1 : Int32))), (.ref b1)])) rfl rfl (hb hby d1_98) _ ?_
        show Steps p.tables e below (T.setTop (mkF m 99 #[.val (.ref b1), .val (.int u1), .val (.int u2), .val (.int j84_3_3), .val (.int (3 : Int32)), .val (.int j84_3_5), .unset] [(.int (f_b1 (u1 + (1 : Int32)).toNatClampNeg))])) _
        refine XS.sipush X.here hx rfl (hb hby d1_99) ?_
        show Steps p.tables e below (T.setTop (mkF m 102 #[.val (.ref b1), .val (.int u1), .val (.int u2), .val (.int j84_3_3), .val (.int (3 : Int32)), .val (.int j84_3_5), .unset] [(.int (192 : Int32)), (.int (f_b1 (u1 + (1 : Int32)).toNatClampNeg))])) _
        refine XS.iand X.here hx rfl (hb hby d1_102) rfl ?_
        show Steps p.tables e below (T.setTop (mkF m 103 #[.val (.ref b1), .val (.int u1), .val (.int u2), .val (.int j84_3_3), .val (.int (3 : Int32)), .val (.int j84_3_5), .unset] [(.int ((f_b1 (u1 + (1 : Int32)).toNatClampNeg) &&& (192 : Int32)))])) _
        refine XS.sipush X.here hx rfl (hb hby d1_103) ?_
        show Steps p.tables e below (T.setTop (mkF m 106 #[.val (.ref b1), .val (.int u1), .val (.int u2), .val (.int j84_3_3), .val (.int (3 : Int32)), .val (.int j84_3_5), .unset] [(.int (128 : Int32)), (.int ((f_b1 (u1 + (1 : Int32)).toNatClampNeg) &&& (192 : Int32)))])) _
        exact k
      by_cases hc106 : ((f_b1 (u1 + (1 : Int32)).toNatClampNeg) &&& (192 : Int32)) = (128 : Int32)
      · have hi21 : ¬ (u1 + (1 : Int32)) < 0 ∧ (u1 + (1 : Int32)).toNatClampNeg < z_b1.toNatClampNeg := own_ixk i0 i1 i2 hc89 (by decide)
        refine own_go (b := T.setTop (mkF m 127 #[.val (.ref b1), .val (.int u1), .val (.int u2), .val (.int j84_3_3), .val (.int (3 : Int32)), .val (.int ((j84_3_5 <<< ((6 : Int32) &&& 31)) ||| ((f_b1 (u1 + (1 : Int32)).toNatClampNeg) &&& (63 : Int32)))), .unset] [])) (fun t k => ?_) ?_
        · show Steps p.tables e below (T.setTop (mkF m 106 #[.val (.ref b1), .val (.int u1), .val (.int u2), .val (.int j84_3_3), .val (.int (3 : Int32)), .val (.int j84_3_5), .unset] [(.int (128 : Int32)), (.int ((f_b1 (u1 + (1 : Int32)).toNatClampNeg) &&& (192 : Int32)))])) _
          refine XS.icmpYes X.here hx rfl (pc0 := 106) (pc' := 111) rfl (hb hby d1_106) rfl (teq hc106).1 (by decide) (by decide) ?_
          show Steps p.tables e below (T.setTop (mkF m 111 #[.val (.ref b1), .val (.int u1), .val (.int u2), .val (.int j84_3_3), .val (.int (3 : Int32)), .val (.int j84_3_5), .unset] [])) _
          refine XS.iload X.here hx rfl (hb hby d1_111) rfl ?_
          show Steps p.tables e below (T.setTop (mkF m 113 #[.val (.ref b1), .val (.int u1), .val (.int u2), .val (.int j84_3_3), .val (.int (3 : Int32)), .val (.int j84_3_5), .unset] [(.int j84_3_5)])) _
          refine XS.bipush X.here hx rfl (hb hby d1_113) ?_
          show Steps p.tables e below (T.setTop (mkF m 115 #[.val (.ref b1), .val (.int u1), .val (.int u2), .val (.int j84_3_3), .val (.int (3 : Int32)), .val (.int j84_3_5), .unset] [(.int (6 : Int32)), (.int j84_3_5)])) _
          refine XS.ishl X.here hx rfl (hb hby d1_115) rfl ?_
          show Steps p.tables e below (T.setTop (mkF m 116 #[.val (.ref b1), .val (.int u1), .val (.int u2), .val (.int j84_3_3), .val (.int (3 : Int32)), .val (.int j84_3_5), .unset] [(.int (j84_3_5 <<< ((6 : Int32) &&& 31)))])) _
          refine XS.aloadN X.here hx rfl (hb hby d1_116) rfl rfl ?_
          show Steps p.tables e below (T.setTop (mkF m 117 #[.val (.ref b1), .val (.int u1), .val (.int u2), .val (.int j84_3_3), .val (.int (3 : Int32)), .val (.int j84_3_5), .unset] [(.ref b1), (.int (j84_3_5 <<< ((6 : Int32) &&& 31)))])) _
          refine XS.iloadN X.here hx rfl (hb hby d1_117) rfl ?_
          show Steps p.tables e below (T.setTop (mkF m 118 #[.val (.ref b1), .val (.int u1), .val (.int u2), .val (.int j84_3_3), .val (.int (3 : Int32)), .val (.int j84_3_5), .unset] [(.int u1), (.ref b1), (.int (j84_3_5 <<< ((6 : Int32) &&& 31)))])) _
          refine XS.iconst X.here hx rfl (hb hby d1_118) ?_
          show Steps p.tables e below (T.setTop (mkF m 119 #[.val (.ref b1), .val (.int u1), .val (.int u2), .val (.int j84_3_3), .val (.int (3 : Int32)), .val (.int j84_3_5), .unset] [(.int (1 : Int32)), (.int u1), (.ref b1), (.int (j84_3_5 <<< ((6 : Int32) &&& 31)))])) _
          refine XS.iadd X.here hx rfl (hb hby d1_119) rfl ?_
          show Steps p.tables e below (T.setTop (mkF m 120 #[.val (.ref b1), .val (.int u1), .val (.int u2), .val (.int j84_3_3), .val (.int (3 : Int32)), .val (.int j84_3_5), .unset] [(.int (u1 + (1 : Int32))), (.ref b1), (.int (j84_3_5 <<< ((6 : Int32) &&& 31)))])) _
          refine X.iaload hx (j := (u1 + (1 : Int32))) (v := (.int (f_b1 (u1 + (1 : Int32)).toNatClampNeg))) (by rw [eT]; exact Ar_b1.1) (State.isArrayOf_alike hZ.alike Ar_b1.2.1) Ar_b1.2.2 (own_hin S_b1 hi21) (H_b1 _ hi21.2) (g := (mkF m 120 #[.val (.ref b1), .val (.int u1), .val (.int u2), .val (.int j84_3_3), .val (.int (3 : Int32)), .val (.int j84_3_5), .unset] [(.int (u1 + (1 : Int32))), (.ref b1), (.int (j84_3_5 <<< ((6 : Int32) &&& 31)))])) rfl rfl (hb hby d1_120) _ ?_
          show Steps p.tables e below (T.setTop (mkF m 121 #[.val (.ref b1), .val (.int u1), .val (.int u2), .val (.int j84_3_3), .val (.int (3 : Int32)), .val (.int j84_3_5), .unset] [(.int (f_b1 (u1 + (1 : Int32)).toNatClampNeg)), (.int (j84_3_5 <<< ((6 : Int32) &&& 31)))])) _
          refine XS.bipush X.here hx rfl (hb hby d1_121) ?_
          show Steps p.tables e below (T.setTop (mkF m 123 #[.val (.ref b1), .val (.int u1), .val (.int u2), .val (.int j84_3_3), .val (.int (3 : Int32)), .val (.int j84_3_5), .unset] [(.int (63 : Int32)), (.int (f_b1 (u1 + (1 : Int32)).toNatClampNeg)), (.int (j84_3_5 <<< ((6 : Int32) &&& 31)))])) _
          refine XS.iand X.here hx rfl (hb hby d1_123) rfl ?_
          show Steps p.tables e below (T.setTop (mkF m 124 #[.val (.ref b1), .val (.int u1), .val (.int u2), .val (.int j84_3_3), .val (.int (3 : Int32)), .val (.int j84_3_5), .unset] [(.int ((f_b1 (u1 + (1 : Int32)).toNatClampNeg) &&& (63 : Int32))), (.int (j84_3_5 <<< ((6 : Int32) &&& 31)))])) _
          refine XS.ior X.here hx rfl (hb hby d1_124) rfl ?_
          show Steps p.tables e below (T.setTop (mkF m 125 #[.val (.ref b1), .val (.int u1), .val (.int u2), .val (.int j84_3_3), .val (.int (3 : Int32)), .val (.int j84_3_5), .unset] [(.int ((j84_3_5 <<< ((6 : Int32) &&& 31)) ||| ((f_b1 (u1 + (1 : Int32)).toNatClampNeg) &&& (63 : Int32))))])) _
          refine XS.istore X.here hx rfl (hb hby d1_125) rfl (l' := #[.val (.ref b1), .val (.int u1), .val (.int u2), .val (.int j84_3_3), .val (.int (3 : Int32)), .val (.int ((j84_3_5 <<< ((6 : Int32) &&& 31)) ||| ((f_b1 (u1 + (1 : Int32)).toNatClampNeg) &&& (63 : Int32)))), .unset]) rfl ?_
          show Steps p.tables e below (T.setTop (mkF m 127 #[.val (.ref b1), .val (.int u1), .val (.int u2), .val (.int j84_3_3), .val (.int (3 : Int32)), .val (.int ((j84_3_5 <<< ((6 : Int32) &&& 31)) ||| ((f_b1 (u1 + (1 : Int32)).toNatClampNeg) &&& (63 : Int32)))), .unset] [])) _
          exact k
        exact J127_3 T _ X N eT j84_3_3 ((j84_3_5 <<< ((6 : Int32) &&& 31)) ||| ((f_b1 (u1 + (1 : Int32)).toNatClampNeg) &&& (63 : Int32)))  (by assumption) (by rw [hv, own_cl_84_3, if_neg hc89, if_pos hc106])
      · refine own_end X Bd.notSynchronized (v := some (.int (0 : Int32))) (fun h => by rw [Bd.returns] at h; cases h) (fun fs hr => ?_) eT ?_ (by decide) (by decide)
        · show Steps p.tables e below (T.setTop (mkF m 106 #[.val (.ref b1), .val (.int u1), .val (.int u2), .val (.int j84_3_3), .val (.int (3 : Int32)), .val (.int j84_3_5), .unset] [(.int (128 : Int32)), (.int ((f_b1 (u1 + (1 : Int32)).toNatClampNeg) &&& (192 : Int32)))])) _
          refine XS.icmpNo X.here hx rfl (hb hby d1_106) rfl (feq hc106).1 ?_
          show Steps p.tables e below (T.setTop (mkF m 109 #[.val (.ref b1), .val (.int u1), .val (.int u2), .val (.int j84_3_3), .val (.int (3 : Int32)), .val (.int j84_3_5), .unset] [])) _
          refine XS.iconst X.here hx rfl (hb hby d1_109) ?_
          show Steps p.tables e below (T.setTop (mkF m 110 #[.val (.ref b1), .val (.int u1), .val (.int u2), .val (.int j84_3_3), .val (.int (3 : Int32)), .val (.int j84_3_5), .unset] [(.int (0 : Int32))])) _
          exact retI X hx Bd.returns (hb hby d1_110) hr
        · exact ⟨by rw [hv, own_cl_84_3, if_neg hc89, if_neg hc106], N, rfl⟩
  have J84_2 : ∀ (T : State) (lc : List Loc), Stand p l e ({ frames := 0, cells := 0, slots := 0, locals := 0 } : Room) s m #[(.ref b1), (.int u1), (.int u2)] below meth c T lc 0 0 → Fr n0 lc → T.heap = h0 → ∀ (j84_2_3 : Int32) (j84_2_5 : Int32), own_cl_0 f_b1 u1 u2 = own_cl_84_2 f_b1 u1 u2 j84_2_3 j84_2_5 → own_Go p e below s (Q1 b1 cl_b1 f_b1 z_b1 u1 u2 h0 n0) ({ frames := 0, cells := 0, slots := 0, locals := 0 } : Room).cells ({ frames := 0, cells := 0, slots := 0, locals := 0 } : Room).slots (T.setTop (mkF m 84 #[.val (.ref b1), .val (.int u1), .val (.int u2), .val (.int j84_2_3), .val (.int (2 : Int32)), .val (.int j84_2_5), .unset] [])) := by
    intro T lc X N eT j84_2_3 j84_2_5   hv
    refine own_go (b := T.setTop (mkF m 89 #[.val (.ref b1), .val (.int u1), .val (.int u2), .val (.int j84_2_3), .val (.int (2 : Int32)), .val (.int j84_2_5), .unset] [(.int (2 : Int32)), (.int (u2 - u1))])) (fun t k => ?_) ?_
    · show Steps p.tables e below (T.setTop (mkF m 84 #[.val (.ref b1), .val (.int u1), .val (.int u2), .val (.int j84_2_3), .val (.int (2 : Int32)), .val (.int j84_2_5), .unset] [])) _
      refine XS.iloadN X.here hx rfl (hb hby d1_84) rfl ?_
      show Steps p.tables e below (T.setTop (mkF m 85 #[.val (.ref b1), .val (.int u1), .val (.int u2), .val (.int j84_2_3), .val (.int (2 : Int32)), .val (.int j84_2_5), .unset] [(.int u2)])) _
      refine XS.iloadN X.here hx rfl (hb hby d1_85) rfl ?_
      show Steps p.tables e below (T.setTop (mkF m 86 #[.val (.ref b1), .val (.int u1), .val (.int u2), .val (.int j84_2_3), .val (.int (2 : Int32)), .val (.int j84_2_5), .unset] [(.int u1), (.int u2)])) _
      refine XS.isub X.here hx rfl (hb hby d1_86) rfl ?_
      show Steps p.tables e below (T.setTop (mkF m 87 #[.val (.ref b1), .val (.int u1), .val (.int u2), .val (.int j84_2_3), .val (.int (2 : Int32)), .val (.int j84_2_5), .unset] [(.int (u2 - u1))])) _
      refine XS.iload X.here hx rfl (hb hby d1_87) rfl ?_
      show Steps p.tables e below (T.setTop (mkF m 89 #[.val (.ref b1), .val (.int u1), .val (.int u2), .val (.int j84_2_3), .val (.int (2 : Int32)), .val (.int j84_2_5), .unset] [(.int (2 : Int32)), (.int (u2 - u1))])) _
      exact k
    by_cases hc89 : (u2 - u1) < (2 : Int32)
    · refine own_end X Bd.notSynchronized (v := some (.int (0 : Int32))) (fun h => by rw [Bd.returns] at h; cases h) (fun fs hr => ?_) eT ?_ (by decide) (by decide)
      · show Steps p.tables e below (T.setTop (mkF m 89 #[.val (.ref b1), .val (.int u1), .val (.int u2), .val (.int j84_2_3), .val (.int (2 : Int32)), .val (.int j84_2_5), .unset] [(.int (2 : Int32)), (.int (u2 - u1))])) _
        refine XS.icmpNo X.here hx rfl (hb hby d1_89) rfl (tlt hc89).2.1 ?_
        show Steps p.tables e below (T.setTop (mkF m 92 #[.val (.ref b1), .val (.int u1), .val (.int u2), .val (.int j84_2_3), .val (.int (2 : Int32)), .val (.int j84_2_5), .unset] [])) _
        refine XS.iconst X.here hx rfl (hb hby d1_92) ?_
        show Steps p.tables e below (T.setTop (mkF m 93 #[.val (.ref b1), .val (.int u1), .val (.int u2), .val (.int j84_2_3), .val (.int (2 : Int32)), .val (.int j84_2_5), .unset] [(.int (0 : Int32))])) _
        exact retI X hx Bd.returns (hb hby d1_93) hr
      · exact ⟨by rw [hv, own_cl_84_2, if_pos hc89], N, rfl⟩
    · have hi22 : ¬ (u1 + (1 : Int32)) < 0 ∧ (u1 + (1 : Int32)).toNatClampNeg < z_b1.toNatClampNeg := own_ixk i0 i1 i2 hc89 (by decide)
      refine own_go (b := T.setTop (mkF m 106 #[.val (.ref b1), .val (.int u1), .val (.int u2), .val (.int j84_2_3), .val (.int (2 : Int32)), .val (.int j84_2_5), .unset] [(.int (128 : Int32)), (.int ((f_b1 (u1 + (1 : Int32)).toNatClampNeg) &&& (192 : Int32)))])) (fun t k => ?_) ?_
      · show Steps p.tables e below (T.setTop (mkF m 89 #[.val (.ref b1), .val (.int u1), .val (.int u2), .val (.int j84_2_3), .val (.int (2 : Int32)), .val (.int j84_2_5), .unset] [(.int (2 : Int32)), (.int (u2 - u1))])) _
        refine XS.icmpYes X.here hx rfl (pc0 := 89) (pc' := 94) rfl (hb hby d1_89) rfl (flt hc89).2.1 (by decide) (by decide) ?_
        show Steps p.tables e below (T.setTop (mkF m 94 #[.val (.ref b1), .val (.int u1), .val (.int u2), .val (.int j84_2_3), .val (.int (2 : Int32)), .val (.int j84_2_5), .unset] [])) _
        refine XS.aloadN X.here hx rfl (hb hby d1_94) rfl rfl ?_
        show Steps p.tables e below (T.setTop (mkF m 95 #[.val (.ref b1), .val (.int u1), .val (.int u2), .val (.int j84_2_3), .val (.int (2 : Int32)), .val (.int j84_2_5), .unset] [(.ref b1)])) _
        refine XS.iloadN X.here hx rfl (hb hby d1_95) rfl ?_
        show Steps p.tables e below (T.setTop (mkF m 96 #[.val (.ref b1), .val (.int u1), .val (.int u2), .val (.int j84_2_3), .val (.int (2 : Int32)), .val (.int j84_2_5), .unset] [(.int u1), (.ref b1)])) _
        refine XS.iconst X.here hx rfl (hb hby d1_96) ?_
        show Steps p.tables e below (T.setTop (mkF m 97 #[.val (.ref b1), .val (.int u1), .val (.int u2), .val (.int j84_2_3), .val (.int (2 : Int32)), .val (.int j84_2_5), .unset] [(.int (1 : Int32)), (.int u1), (.ref b1)])) _
        refine XS.iadd X.here hx rfl (hb hby d1_97) rfl ?_
        show Steps p.tables e below (T.setTop (mkF m 98 #[.val (.ref b1), .val (.int u1), .val (.int u2), .val (.int j84_2_3), .val (.int (2 : Int32)), .val (.int j84_2_5), .unset] [(.int (u1 + (1 : Int32))), (.ref b1)])) _
        refine X.iaload hx (j := (u1 + (1 : Int32))) (v := (.int (f_b1 (u1 + (1 : Int32)).toNatClampNeg))) (by rw [eT]; exact Ar_b1.1) (State.isArrayOf_alike hZ.alike Ar_b1.2.1) Ar_b1.2.2 (own_hin S_b1 hi22) (H_b1 _ hi22.2) (g := (mkF m 98 #[.val (.ref b1), .val (.int u1), .val (.int u2), .val (.int j84_2_3), .val (.int (2 : Int32)), .val (.int j84_2_5), .unset] [(.int (u1 + (1 : Int32))), (.ref b1)])) rfl rfl (hb hby d1_98) _ ?_
        show Steps p.tables e below (T.setTop (mkF m 99 #[.val (.ref b1), .val (.int u1), .val (.int u2), .val (.int j84_2_3), .val (.int (2 : Int32)), .val (.int j84_2_5), .unset] [(.int (f_b1 (u1 + (1 : Int32)).toNatClampNeg))])) _
        refine XS.sipush X.here hx rfl (hb hby d1_99) ?_
        show Steps p.tables e below (T.setTop (mkF m 102 #[.val (.ref b1), .val (.int u1), .val (.int u2), .val (.int j84_2_3), .val (.int (2 : Int32)), .val (.int j84_2_5), .unset] [(.int (192 : Int32)), (.int (f_b1 (u1 + (1 : Int32)).toNatClampNeg))])) _
        refine XS.iand X.here hx rfl (hb hby d1_102) rfl ?_
        show Steps p.tables e below (T.setTop (mkF m 103 #[.val (.ref b1), .val (.int u1), .val (.int u2), .val (.int j84_2_3), .val (.int (2 : Int32)), .val (.int j84_2_5), .unset] [(.int ((f_b1 (u1 + (1 : Int32)).toNatClampNeg) &&& (192 : Int32)))])) _
        refine XS.sipush X.here hx rfl (hb hby d1_103) ?_
        show Steps p.tables e below (T.setTop (mkF m 106 #[.val (.ref b1), .val (.int u1), .val (.int u2), .val (.int j84_2_3), .val (.int (2 : Int32)), .val (.int j84_2_5), .unset] [(.int (128 : Int32)), (.int ((f_b1 (u1 + (1 : Int32)).toNatClampNeg) &&& (192 : Int32)))])) _
        exact k
      by_cases hc106 : ((f_b1 (u1 + (1 : Int32)).toNatClampNeg) &&& (192 : Int32)) = (128 : Int32)
      · have hi23 : ¬ (u1 + (1 : Int32)) < 0 ∧ (u1 + (1 : Int32)).toNatClampNeg < z_b1.toNatClampNeg := own_ixk i0 i1 i2 hc89 (by decide)
        refine own_go (b := T.setTop (mkF m 127 #[.val (.ref b1), .val (.int u1), .val (.int u2), .val (.int j84_2_3), .val (.int (2 : Int32)), .val (.int ((j84_2_5 <<< ((6 : Int32) &&& 31)) ||| ((f_b1 (u1 + (1 : Int32)).toNatClampNeg) &&& (63 : Int32)))), .unset] [])) (fun t k => ?_) ?_
        · show Steps p.tables e below (T.setTop (mkF m 106 #[.val (.ref b1), .val (.int u1), .val (.int u2), .val (.int j84_2_3), .val (.int (2 : Int32)), .val (.int j84_2_5), .unset] [(.int (128 : Int32)), (.int ((f_b1 (u1 + (1 : Int32)).toNatClampNeg) &&& (192 : Int32)))])) _
          refine XS.icmpYes X.here hx rfl (pc0 := 106) (pc' := 111) rfl (hb hby d1_106) rfl (teq hc106).1 (by decide) (by decide) ?_
          show Steps p.tables e below (T.setTop (mkF m 111 #[.val (.ref b1), .val (.int u1), .val (.int u2), .val (.int j84_2_3), .val (.int (2 : Int32)), .val (.int j84_2_5), .unset] [])) _
          refine XS.iload X.here hx rfl (hb hby d1_111) rfl ?_
          show Steps p.tables e below (T.setTop (mkF m 113 #[.val (.ref b1), .val (.int u1), .val (.int u2), .val (.int j84_2_3), .val (.int (2 : Int32)), .val (.int j84_2_5), .unset] [(.int j84_2_5)])) _
          refine XS.bipush X.here hx rfl (hb hby d1_113) ?_
          show Steps p.tables e below (T.setTop (mkF m 115 #[.val (.ref b1), .val (.int u1), .val (.int u2), .val (.int j84_2_3), .val (.int (2 : Int32)), .val (.int j84_2_5), .unset] [(.int (6 : Int32)), (.int j84_2_5)])) _
          refine XS.ishl X.here hx rfl (hb hby d1_115) rfl ?_
          show Steps p.tables e below (T.setTop (mkF m 116 #[.val (.ref b1), .val (.int u1), .val (.int u2), .val (.int j84_2_3), .val (.int (2 : Int32)), .val (.int j84_2_5), .unset] [(.int (j84_2_5 <<< ((6 : Int32) &&& 31)))])) _
          refine XS.aloadN X.here hx rfl (hb hby d1_116) rfl rfl ?_
          show Steps p.tables e below (T.setTop (mkF m 117 #[.val (.ref b1), .val (.int u1), .val (.int u2), .val (.int j84_2_3), .val (.int (2 : Int32)), .val (.int j84_2_5), .unset] [(.ref b1), (.int (j84_2_5 <<< ((6 : Int32) &&& 31)))])) _
          refine XS.iloadN X.here hx rfl (hb hby d1_117) rfl ?_
          show Steps p.tables e below (T.setTop (mkF m 118 #[.val (.ref b1), .val (.int u1), .val (.int u2), .val (.int j84_2_3), .val (.int (2 : Int32)), .val (.int j84_2_5), .unset] [(.int u1), (.ref b1), (.int (j84_2_5 <<< ((6 : Int32) &&& 31)))])) _
          refine XS.iconst X.here hx rfl (hb hby d1_118) ?_
          show Steps p.tables e below (T.setTop (mkF m 119 #[.val (.ref b1), .val (.int u1), .val (.int u2), .val (.int j84_2_3), .val (.int (2 : Int32)), .val (.int j84_2_5), .unset] [(.int (1 : Int32)), (.int u1), (.ref b1), (.int (j84_2_5 <<< ((6 : Int32) &&& 31)))])) _
          refine XS.iadd X.here hx rfl (hb hby d1_119) rfl ?_
          show Steps p.tables e below (T.setTop (mkF m 120 #[.val (.ref b1), .val (.int u1), .val (.int u2), .val (.int j84_2_3), .val (.int (2 : Int32)), .val (.int j84_2_5), .unset] [(.int (u1 + (1 : Int32))), (.ref b1), (.int (j84_2_5 <<< ((6 : Int32) &&& 31)))])) _
          refine X.iaload hx (j := (u1 + (1 : Int32))) (v := (.int (f_b1 (u1 + (1 : Int32)).toNatClampNeg))) (by rw [eT]; exact Ar_b1.1) (State.isArrayOf_alike hZ.alike Ar_b1.2.1) Ar_b1.2.2 (own_hin S_b1 hi23) (H_b1 _ hi23.2) (g := (mkF m 120 #[.val (.ref b1), .val (.int u1), .val (.int u2), .val (.int j84_2_3), .val (.int (2 : Int32)), .val (.int j84_2_5), .unset] [(.int (u1 + (1 : Int32))), (.ref b1), (.int (j84_2_5 <<< ((6 : Int32) &&& 31)))])) rfl rfl (hb hby d1_120) _ ?_
          show Steps p.tables e below (T.setTop (mkF m 121 #[.val (.ref b1), .val (.int u1), .val (.int u2), .val (.int j84_2_3), .val (.int (2 : Int32)), .val (.int j84_2_5), .unset] [(.int (f_b1 (u1 + (1 : Int32)).toNatClampNeg)), (.int (j84_2_5 <<< ((6 : Int32) &&& 31)))])) _
          refine XS.bipush X.here hx rfl (hb hby d1_121) ?_
          show Steps p.tables e below (T.setTop (mkF m 123 #[.val (.ref b1), .val (.int u1), .val (.int u2), .val (.int j84_2_3), .val (.int (2 : Int32)), .val (.int j84_2_5), .unset] [(.int (63 : Int32)), (.int (f_b1 (u1 + (1 : Int32)).toNatClampNeg)), (.int (j84_2_5 <<< ((6 : Int32) &&& 31)))])) _
          refine XS.iand X.here hx rfl (hb hby d1_123) rfl ?_
          show Steps p.tables e below (T.setTop (mkF m 124 #[.val (.ref b1), .val (.int u1), .val (.int u2), .val (.int j84_2_3), .val (.int (2 : Int32)), .val (.int j84_2_5), .unset] [(.int ((f_b1 (u1 + (1 : Int32)).toNatClampNeg) &&& (63 : Int32))), (.int (j84_2_5 <<< ((6 : Int32) &&& 31)))])) _
          refine XS.ior X.here hx rfl (hb hby d1_124) rfl ?_
          show Steps p.tables e below (T.setTop (mkF m 125 #[.val (.ref b1), .val (.int u1), .val (.int u2), .val (.int j84_2_3), .val (.int (2 : Int32)), .val (.int j84_2_5), .unset] [(.int ((j84_2_5 <<< ((6 : Int32) &&& 31)) ||| ((f_b1 (u1 + (1 : Int32)).toNatClampNeg) &&& (63 : Int32))))])) _
          refine XS.istore X.here hx rfl (hb hby d1_125) rfl (l' := #[.val (.ref b1), .val (.int u1), .val (.int u2), .val (.int j84_2_3), .val (.int (2 : Int32)), .val (.int ((j84_2_5 <<< ((6 : Int32) &&& 31)) ||| ((f_b1 (u1 + (1 : Int32)).toNatClampNeg) &&& (63 : Int32)))), .unset]) rfl ?_
          show Steps p.tables e below (T.setTop (mkF m 127 #[.val (.ref b1), .val (.int u1), .val (.int u2), .val (.int j84_2_3), .val (.int (2 : Int32)), .val (.int ((j84_2_5 <<< ((6 : Int32) &&& 31)) ||| ((f_b1 (u1 + (1 : Int32)).toNatClampNeg) &&& (63 : Int32)))), .unset] [])) _
          exact k
        exact J127_2 T _ X N eT j84_2_3 ((j84_2_5 <<< ((6 : Int32) &&& 31)) ||| ((f_b1 (u1 + (1 : Int32)).toNatClampNeg) &&& (63 : Int32)))  (by assumption) (by rw [hv, own_cl_84_2, if_neg hc89, if_pos hc106])
      · refine own_end X Bd.notSynchronized (v := some (.int (0 : Int32))) (fun h => by rw [Bd.returns] at h; cases h) (fun fs hr => ?_) eT ?_ (by decide) (by decide)
        · show Steps p.tables e below (T.setTop (mkF m 106 #[.val (.ref b1), .val (.int u1), .val (.int u2), .val (.int j84_2_3), .val (.int (2 : Int32)), .val (.int j84_2_5), .unset] [(.int (128 : Int32)), (.int ((f_b1 (u1 + (1 : Int32)).toNatClampNeg) &&& (192 : Int32)))])) _
          refine XS.icmpNo X.here hx rfl (hb hby d1_106) rfl (feq hc106).1 ?_
          show Steps p.tables e below (T.setTop (mkF m 109 #[.val (.ref b1), .val (.int u1), .val (.int u2), .val (.int j84_2_3), .val (.int (2 : Int32)), .val (.int j84_2_5), .unset] [])) _
          refine XS.iconst X.here hx rfl (hb hby d1_109) ?_
          show Steps p.tables e below (T.setTop (mkF m 110 #[.val (.ref b1), .val (.int u1), .val (.int u2), .val (.int j84_2_3), .val (.int (2 : Int32)), .val (.int j84_2_5), .unset] [(.int (0 : Int32))])) _
          exact retI X hx Bd.returns (hb hby d1_110) hr
        · exact ⟨by rw [hv, own_cl_84_2, if_neg hc89, if_neg hc106], N, rfl⟩
  have J4 : ∀ (T : State) (lc : List Loc), Stand p l e ({ frames := 0, cells := 0, slots := 0, locals := 0 } : Room) s m #[(.ref b1), (.int u1), (.int u2)] below meth c T lc 0 0 → Fr n0 lc → T.heap = h0 → ∀ (j4_3 : Int32), own_cl_0 f_b1 u1 u2 = own_cl_4 f_b1 u1 u2 j4_3 → own_Go p e below s (Q1 b1 cl_b1 f_b1 z_b1 u1 u2 h0 n0) ({ frames := 0, cells := 0, slots := 0, locals := 0 } : Room).cells ({ frames := 0, cells := 0, slots := 0, locals := 0 } : Room).slots (T.setTop (mkF m 4 #[.val (.ref b1), .val (.int u1), .val (.int u2), .val (.int j4_3), .unset, .unset, .unset] [])) := by
    intro T lc X N eT j4_3   hv
    refine own_go (b := T.setTop (mkF m 8 #[.val (.ref b1), .val (.int u1), .val (.int u2), .val (.int j4_3), .unset, .unset, .unset] [(.int (128 : Int32)), (.int j4_3)])) (fun t k => ?_) ?_
    · show Steps p.tables e below (T.setTop (mkF m 4 #[.val (.ref b1), .val (.int u1), .val (.int u2), .val (.int j4_3), .unset, .unset, .unset] [])) _
      refine XS.iloadN X.here hx rfl (hb hby d1_4) rfl ?_
      show Steps p.tables e below (T.setTop (mkF m 5 #[.val (.ref b1), .val (.int u1), .val (.int u2), .val (.int j4_3), .unset, .unset, .unset] [(.int j4_3)])) _
      refine XS.sipush X.here hx rfl (hb hby d1_5) ?_
      show Steps p.tables e below (T.setTop (mkF m 8 #[.val (.ref b1), .val (.int u1), .val (.int u2), .val (.int j4_3), .unset, .unset, .unset] [(.int (128 : Int32)), (.int j4_3)])) _
      exact k
    by_cases hc8 : j4_3 < (128 : Int32)
    · refine own_end X Bd.notSynchronized (v := some (.int (1 : Int32))) (fun h => by rw [Bd.returns] at h; cases h) (fun fs hr => ?_) eT ?_ (by decide) (by decide)
      · show Steps p.tables e below (T.setTop (mkF m 8 #[.val (.ref b1), .val (.int u1), .val (.int u2), .val (.int j4_3), .unset, .unset, .unset] [(.int (128 : Int32)), (.int j4_3)])) _
        refine XS.icmpNo X.here hx rfl (hb hby d1_8) rfl (tlt hc8).2.1 ?_
        show Steps p.tables e below (T.setTop (mkF m 11 #[.val (.ref b1), .val (.int u1), .val (.int u2), .val (.int j4_3), .unset, .unset, .unset] [])) _
        refine XS.iconst X.here hx rfl (hb hby d1_11) ?_
        show Steps p.tables e below (T.setTop (mkF m 12 #[.val (.ref b1), .val (.int u1), .val (.int u2), .val (.int j4_3), .unset, .unset, .unset] [(.int (1 : Int32))])) _
        exact retI X hx Bd.returns (hb hby d1_12) hr
      · exact ⟨by rw [hv, own_cl_4, if_pos hc8], N, rfl⟩
    · refine own_go (b := T.setTop (mkF m 21 #[.val (.ref b1), .val (.int u1), .val (.int u2), .val (.int j4_3), .unset, .unset, .unset] [(.int (192 : Int32)), (.int (j4_3 &&& (224 : Int32)))])) (fun t k => ?_) ?_
      · show Steps p.tables e below (T.setTop (mkF m 8 #[.val (.ref b1), .val (.int u1), .val (.int u2), .val (.int j4_3), .unset, .unset, .unset] [(.int (128 : Int32)), (.int j4_3)])) _
        refine XS.icmpYes X.here hx rfl (pc0 := 8) (pc' := 13) rfl (hb hby d1_8) rfl (flt hc8).2.1 (by decide) (by decide) ?_
        show Steps p.tables e below (T.setTop (mkF m 13 #[.val (.ref b1), .val (.int u1), .val (.int u2), .val (.int j4_3), .unset, .unset, .unset] [])) _
        refine XS.iloadN X.here hx rfl (hb hby d1_13) rfl ?_
        show Steps p.tables e below (T.setTop (mkF m 14 #[.val (.ref b1), .val (.int u1), .val (.int u2), .val (.int j4_3), .unset, .unset, .unset] [(.int j4_3)])) _
        refine XS.sipush X.here hx rfl (hb hby d1_14) ?_
        show Steps p.tables e below (T.setTop (mkF m 17 #[.val (.ref b1), .val (.int u1), .val (.int u2), .val (.int j4_3), .unset, .unset, .unset] [(.int (224 : Int32)), (.int j4_3)])) _
        refine XS.iand X.here hx rfl (hb hby d1_17) rfl ?_
        show Steps p.tables e below (T.setTop (mkF m 18 #[.val (.ref b1), .val (.int u1), .val (.int u2), .val (.int j4_3), .unset, .unset, .unset] [(.int (j4_3 &&& (224 : Int32)))])) _
        refine XS.sipush X.here hx rfl (hb hby d1_18) ?_
        show Steps p.tables e below (T.setTop (mkF m 21 #[.val (.ref b1), .val (.int u1), .val (.int u2), .val (.int j4_3), .unset, .unset, .unset] [(.int (192 : Int32)), (.int (j4_3 &&& (224 : Int32)))])) _
        exact k
      by_cases hc21 : (j4_3 &&& (224 : Int32)) = (192 : Int32)
      · refine own_go (b := T.setTop (mkF m 84 #[.val (.ref b1), .val (.int u1), .val (.int u2), .val (.int j4_3), .val (.int (2 : Int32)), .val (.int (j4_3 &&& (31 : Int32))), .unset] [])) (fun t k => ?_) ?_
        · show Steps p.tables e below (T.setTop (mkF m 21 #[.val (.ref b1), .val (.int u1), .val (.int u2), .val (.int j4_3), .unset, .unset, .unset] [(.int (192 : Int32)), (.int (j4_3 &&& (224 : Int32)))])) _
          refine XS.icmpNo X.here hx rfl (hb hby d1_21) rfl (teq hc21).2 ?_
          show Steps p.tables e below (T.setTop (mkF m 24 #[.val (.ref b1), .val (.int u1), .val (.int u2), .val (.int j4_3), .unset, .unset, .unset] [])) _
          refine XS.iconst X.here hx rfl (hb hby d1_24) ?_
          show Steps p.tables e below (T.setTop (mkF m 25 #[.val (.ref b1), .val (.int u1), .val (.int u2), .val (.int j4_3), .unset, .unset, .unset] [(.int (2 : Int32))])) _
          refine XS.istore X.here hx rfl (hb hby d1_25) rfl (l' := #[.val (.ref b1), .val (.int u1), .val (.int u2), .val (.int j4_3), .val (.int (2 : Int32)), .unset, .unset]) rfl ?_
          show Steps p.tables e below (T.setTop (mkF m 27 #[.val (.ref b1), .val (.int u1), .val (.int u2), .val (.int j4_3), .val (.int (2 : Int32)), .unset, .unset] [])) _
          refine XS.iloadN X.here hx rfl (hb hby d1_27) rfl ?_
          show Steps p.tables e below (T.setTop (mkF m 28 #[.val (.ref b1), .val (.int u1), .val (.int u2), .val (.int j4_3), .val (.int (2 : Int32)), .unset, .unset] [(.int j4_3)])) _
          refine XS.bipush X.here hx rfl (hb hby d1_28) ?_
          show Steps p.tables e below (T.setTop (mkF m 30 #[.val (.ref b1), .val (.int u1), .val (.int u2), .val (.int j4_3), .val (.int (2 : Int32)), .unset, .unset] [(.int (31 : Int32)), (.int j4_3)])) _
          refine XS.iand X.here hx rfl (hb hby d1_30) rfl ?_
          show Steps p.tables e below (T.setTop (mkF m 31 #[.val (.ref b1), .val (.int u1), .val (.int u2), .val (.int j4_3), .val (.int (2 : Int32)), .unset, .unset] [(.int (j4_3 &&& (31 : Int32)))])) _
          refine XS.istore X.here hx rfl (hb hby d1_31) rfl (l' := #[.val (.ref b1), .val (.int u1), .val (.int u2), .val (.int j4_3), .val (.int (2 : Int32)), .val (.int (j4_3 &&& (31 : Int32))), .unset]) rfl ?_
          show Steps p.tables e below (T.setTop (mkF m 33 #[.val (.ref b1), .val (.int u1), .val (.int u2), .val (.int j4_3), .val (.int (2 : Int32)), .val (.int (j4_3 &&& (31 : Int32))), .unset] [])) _
          refine XS.goto X.here hx rfl (pc0 := 33) (pc' := 84) rfl (hb hby d1_33) (by decide) (by decide) ?_
          show Steps p.tables e below (T.setTop (mkF m 84 #[.val (.ref b1), .val (.int u1), .val (.int u2), .val (.int j4_3), .val (.int (2 : Int32)), .val (.int (j4_3 &&& (31 : Int32))), .unset] [])) _
          exact k
        exact J84_2 T _ X N eT j4_3 (j4_3 &&& (31 : Int32))   (by rw [hv, own_cl_4, if_neg hc8, if_pos hc21])
      · refine own_go (b := T.setTop (mkF m 44 #[.val (.ref b1), .val (.int u1), .val (.int u2), .val (.int j4_3), .unset, .unset, .unset] [(.int (224 : Int32)), (.int (j4_3 &&& (240 : Int32)))])) (fun t k => ?_) ?_
        · show Steps p.tables e below (T.setTop (mkF m 21 #[.val (.ref b1), .val (.int u1), .val (.int u2), .val (.int j4_3), .unset, .unset, .unset] [(.int (192 : Int32)), (.int (j4_3 &&& (224 : Int32)))])) _
          refine XS.icmpYes X.here hx rfl (pc0 := 21) (pc' := 36) rfl (hb hby d1_21) rfl (feq hc21).2 (by decide) (by decide) ?_
          show Steps p.tables e below (T.setTop (mkF m 36 #[.val (.ref b1), .val (.int u1), .val (.int u2), .val (.int j4_3), .unset, .unset, .unset] [])) _
          refine XS.iloadN X.here hx rfl (hb hby d1_36) rfl ?_
          show Steps p.tables e below (T.setTop (mkF m 37 #[.val (.ref b1), .val (.int u1), .val (.int u2), .val (.int j4_3), .unset, .unset, .unset] [(.int j4_3)])) _
          refine XS.sipush X.here hx rfl (hb hby d1_37) ?_
          show Steps p.tables e below (T.setTop (mkF m 40 #[.val (.ref b1), .val (.int u1), .val (.int u2), .val (.int j4_3), .unset, .unset, .unset] [(.int (240 : Int32)), (.int j4_3)])) _
          refine XS.iand X.here hx rfl (hb hby d1_40) rfl ?_
          show Steps p.tables e below (T.setTop (mkF m 41 #[.val (.ref b1), .val (.int u1), .val (.int u2), .val (.int j4_3), .unset, .unset, .unset] [(.int (j4_3 &&& (240 : Int32)))])) _
          refine XS.sipush X.here hx rfl (hb hby d1_41) ?_
          show Steps p.tables e below (T.setTop (mkF m 44 #[.val (.ref b1), .val (.int u1), .val (.int u2), .val (.int j4_3), .unset, .unset, .unset] [(.int (224 : Int32)), (.int (j4_3 &&& (240 : Int32)))])) _
          exact k
        by_cases hc44 : (j4_3 &&& (240 : Int32)) = (224 : Int32)
        · refine own_go (b := T.setTop (mkF m 84 #[.val (.ref b1), .val (.int u1), .val (.int u2), .val (.int j4_3), .val (.int (3 : Int32)), .val (.int (j4_3 &&& (15 : Int32))), .unset] [])) (fun t k => ?_) ?_
          · show Steps p.tables e below (T.setTop (mkF m 44 #[.val (.ref b1), .val (.int u1), .val (.int u2), .val (.int j4_3), .unset, .unset, .unset] [(.int (224 : Int32)), (.int (j4_3 &&& (240 : Int32)))])) _
            refine XS.icmpNo X.here hx rfl (hb hby d1_44) rfl (teq hc44).2 ?_
            show Steps p.tables e below (T.setTop (mkF m 47 #[.val (.ref b1), .val (.int u1), .val (.int u2), .val (.int j4_3), .unset, .unset, .unset] [])) _
            refine XS.iconst X.here hx rfl (hb hby d1_47) ?_
            show Steps p.tables e below (T.setTop (mkF m 48 #[.val (.ref b1), .val (.int u1), .val (.int u2), .val (.int j4_3), .unset, .unset, .unset] [(.int (3 : Int32))])) _
            refine XS.istore X.here hx rfl (hb hby d1_48) rfl (l' := #[.val (.ref b1), .val (.int u1), .val (.int u2), .val (.int j4_3), .val (.int (3 : Int32)), .unset, .unset]) rfl ?_
            show Steps p.tables e below (T.setTop (mkF m 50 #[.val (.ref b1), .val (.int u1), .val (.int u2), .val (.int j4_3), .val (.int (3 : Int32)), .unset, .unset] [])) _
            refine XS.iloadN X.here hx rfl (hb hby d1_50) rfl ?_
            show Steps p.tables e below (T.setTop (mkF m 51 #[.val (.ref b1), .val (.int u1), .val (.int u2), .val (.int j4_3), .val (.int (3 : Int32)), .unset, .unset] [(.int j4_3)])) _
            refine XS.bipush X.here hx rfl (hb hby d1_51) ?_
            show Steps p.tables e below (T.setTop (mkF m 53 #[.val (.ref b1), .val (.int u1), .val (.int u2), .val (.int j4_3), .val (.int (3 : Int32)), .unset, .unset] [(.int (15 : Int32)), (.int j4_3)])) _
            refine XS.iand X.here hx rfl (hb hby d1_53) rfl ?_
            show Steps p.tables e below (T.setTop (mkF m 54 #[.val (.ref b1), .val (.int u1), .val (.int u2), .val (.int j4_3), .val (.int (3 : Int32)), .unset, .unset] [(.int (j4_3 &&& (15 : Int32)))])) _
            refine XS.istore X.here hx rfl (hb hby d1_54) rfl (l' := #[.val (.ref b1), .val (.int u1), .val (.int u2), .val (.int j4_3), .val (.int (3 : Int32)), .val (.int (j4_3 &&& (15 : Int32))), .unset]) rfl ?_
            show Steps p.tables e below (T.setTop (mkF m 56 #[.val (.ref b1), .val (.int u1), .val (.int u2), .val (.int j4_3), .val (.int (3 : Int32)), .val (.int (j4_3 &&& (15 : Int32))), .unset] [])) _
            refine XS.goto X.here hx rfl (pc0 := 56) (pc' := 84) rfl (hb hby d1_56) (by decide) (by decide) ?_
            show Steps p.tables e below (T.setTop (mkF m 84 #[.val (.ref b1), .val (.int u1), .val (.int u2), .val (.int j4_3), .val (.int (3 : Int32)), .val (.int (j4_3 &&& (15 : Int32))), .unset] [])) _
            exact k
          exact J84_3 T _ X N eT j4_3 (j4_3 &&& (15 : Int32))   (by rw [hv, own_cl_4, if_neg hc8, if_neg hc21, if_pos hc44])
        · refine own_go (b := T.setTop (mkF m 67 #[.val (.ref b1), .val (.int u1), .val (.int u2), .val (.int j4_3), .unset, .unset, .unset] [(.int (240 : Int32)), (.int (j4_3 &&& (248 : Int32)))])) (fun t k => ?_) ?_
          · show Steps p.tables e below (T.setTop (mkF m 44 #[.val (.ref b1), .val (.int u1), .val (.int u2), .val (.int j4_3), .unset, .unset, .unset] [(.int (224 : Int32)), (.int (j4_3 &&& (240 : Int32)))])) _
            refine XS.icmpYes X.here hx rfl (pc0 := 44) (pc' := 59) rfl (hb hby d1_44) rfl (feq hc44).2 (by decide) (by decide) ?_
            show Steps p.tables e below (T.setTop (mkF m 59 #[.val (.ref b1), .val (.int u1), .val (.int u2), .val (.int j4_3), .unset, .unset, .unset] [])) _
            refine XS.iloadN X.here hx rfl (hb hby d1_59) rfl ?_
            show Steps p.tables e below (T.setTop (mkF m 60 #[.val (.ref b1), .val (.int u1), .val (.int u2), .val (.int j4_3), .unset, .unset, .unset] [(.int j4_3)])) _
            refine XS.sipush X.here hx rfl (hb hby d1_60) ?_
            show Steps p.tables e below (T.setTop (mkF m 63 #[.val (.ref b1), .val (.int u1), .val (.int u2), .val (.int j4_3), .unset, .unset, .unset] [(.int (248 : Int32)), (.int j4_3)])) _
            refine XS.iand X.here hx rfl (hb hby d1_63) rfl ?_
            show Steps p.tables e below (T.setTop (mkF m 64 #[.val (.ref b1), .val (.int u1), .val (.int u2), .val (.int j4_3), .unset, .unset, .unset] [(.int (j4_3 &&& (248 : Int32)))])) _
            refine XS.sipush X.here hx rfl (hb hby d1_64) ?_
            show Steps p.tables e below (T.setTop (mkF m 67 #[.val (.ref b1), .val (.int u1), .val (.int u2), .val (.int j4_3), .unset, .unset, .unset] [(.int (240 : Int32)), (.int (j4_3 &&& (248 : Int32)))])) _
            exact k
          by_cases hc67 : (j4_3 &&& (248 : Int32)) = (240 : Int32)
          · refine own_go (b := T.setTop (mkF m 84 #[.val (.ref b1), .val (.int u1), .val (.int u2), .val (.int j4_3), .val (.int (4 : Int32)), .val (.int (j4_3 &&& (7 : Int32))), .unset] [])) (fun t k => ?_) ?_
            · show Steps p.tables e below (T.setTop (mkF m 67 #[.val (.ref b1), .val (.int u1), .val (.int u2), .val (.int j4_3), .unset, .unset, .unset] [(.int (240 : Int32)), (.int (j4_3 &&& (248 : Int32)))])) _
              refine XS.icmpNo X.here hx rfl (hb hby d1_67) rfl (teq hc67).2 ?_
              show Steps p.tables e below (T.setTop (mkF m 70 #[.val (.ref b1), .val (.int u1), .val (.int u2), .val (.int j4_3), .unset, .unset, .unset] [])) _
              refine XS.iconst X.here hx rfl (hb hby d1_70) ?_
              show Steps p.tables e below (T.setTop (mkF m 71 #[.val (.ref b1), .val (.int u1), .val (.int u2), .val (.int j4_3), .unset, .unset, .unset] [(.int (4 : Int32))])) _
              refine XS.istore X.here hx rfl (hb hby d1_71) rfl (l' := #[.val (.ref b1), .val (.int u1), .val (.int u2), .val (.int j4_3), .val (.int (4 : Int32)), .unset, .unset]) rfl ?_
              show Steps p.tables e below (T.setTop (mkF m 73 #[.val (.ref b1), .val (.int u1), .val (.int u2), .val (.int j4_3), .val (.int (4 : Int32)), .unset, .unset] [])) _
              refine XS.iloadN X.here hx rfl (hb hby d1_73) rfl ?_
              show Steps p.tables e below (T.setTop (mkF m 74 #[.val (.ref b1), .val (.int u1), .val (.int u2), .val (.int j4_3), .val (.int (4 : Int32)), .unset, .unset] [(.int j4_3)])) _
              refine XS.bipush X.here hx rfl (hb hby d1_74) ?_
              show Steps p.tables e below (T.setTop (mkF m 76 #[.val (.ref b1), .val (.int u1), .val (.int u2), .val (.int j4_3), .val (.int (4 : Int32)), .unset, .unset] [(.int (7 : Int32)), (.int j4_3)])) _
              refine XS.iand X.here hx rfl (hb hby d1_76) rfl ?_
              show Steps p.tables e below (T.setTop (mkF m 77 #[.val (.ref b1), .val (.int u1), .val (.int u2), .val (.int j4_3), .val (.int (4 : Int32)), .unset, .unset] [(.int (j4_3 &&& (7 : Int32)))])) _
              refine XS.istore X.here hx rfl (hb hby d1_77) rfl (l' := #[.val (.ref b1), .val (.int u1), .val (.int u2), .val (.int j4_3), .val (.int (4 : Int32)), .val (.int (j4_3 &&& (7 : Int32))), .unset]) rfl ?_
              show Steps p.tables e below (T.setTop (mkF m 79 #[.val (.ref b1), .val (.int u1), .val (.int u2), .val (.int j4_3), .val (.int (4 : Int32)), .val (.int (j4_3 &&& (7 : Int32))), .unset] [])) _
              refine XS.goto X.here hx rfl (pc0 := 79) (pc' := 84) rfl (hb hby d1_79) (by decide) (by decide) ?_
              show Steps p.tables e below (T.setTop (mkF m 84 #[.val (.ref b1), .val (.int u1), .val (.int u2), .val (.int j4_3), .val (.int (4 : Int32)), .val (.int (j4_3 &&& (7 : Int32))), .unset] [])) _
              exact k
            exact J84_4 T _ X N eT j4_3 (j4_3 &&& (7 : Int32))   (by rw [hv, own_cl_4, if_neg hc8, if_neg hc21, if_neg hc44, if_pos hc67])
          · refine own_end X Bd.notSynchronized (v := some (.int (0 : Int32))) (fun h => by rw [Bd.returns] at h; cases h) (fun fs hr => ?_) eT ?_ (by decide) (by decide)
            · show Steps p.tables e below (T.setTop (mkF m 67 #[.val (.ref b1), .val (.int u1), .val (.int u2), .val (.int j4_3), .unset, .unset, .unset] [(.int (240 : Int32)), (.int (j4_3 &&& (248 : Int32)))])) _
              refine XS.icmpYes X.here hx rfl (pc0 := 67) (pc' := 82) rfl (hb hby d1_67) rfl (feq hc67).2 (by decide) (by decide) ?_
              show Steps p.tables e below (T.setTop (mkF m 82 #[.val (.ref b1), .val (.int u1), .val (.int u2), .val (.int j4_3), .unset, .unset, .unset] [])) _
              refine XS.iconst X.here hx rfl (hb hby d1_82) ?_
              show Steps p.tables e below (T.setTop (mkF m 83 #[.val (.ref b1), .val (.int u1), .val (.int u2), .val (.int j4_3), .unset, .unset, .unset] [(.int (0 : Int32))])) _
              exact retI X hx Bd.returns (hb hby d1_83) hr
            · exact ⟨by rw [hv, own_cl_4, if_neg hc8, if_neg hc21, if_neg hc44, if_neg hc67], N, rfl⟩
  have hi24 : ¬ u1 < 0 ∧ u1.toNatClampNeg < z_b1.toNatClampNeg := own_ix0 i0 i1 i2
  refine own_go (b := s₁.setTop (mkF m 4 #[.val (.ref b1), .val (.int u1), .val (.int u2), .val (.int (f_b1 u1.toNatClampNeg)), .unset, .unset, .unset] [])) (fun t k => ?_) ?_
  · show Steps p.tables e below (s₁.setTop (mkF m 0 #[.val (.ref b1), .val (.int u1), .val (.int u2), .unset, .unset, .unset, .unset] [])) _
    refine XS.aloadN X0.here hx rfl (hb hby d1_0) rfl rfl ?_
    show Steps p.tables e below (s₁.setTop (mkF m 1 #[.val (.ref b1), .val (.int u1), .val (.int u2), .unset, .unset, .unset, .unset] [(.ref b1)])) _
    refine XS.iloadN X0.here hx rfl (hb hby d1_1) rfl ?_
    show Steps p.tables e below (s₁.setTop (mkF m 2 #[.val (.ref b1), .val (.int u1), .val (.int u2), .unset, .unset, .unset, .unset] [(.int u1), (.ref b1)])) _
    refine X0.iaload hx (j := u1) (v := (.int (f_b1 u1.toNatClampNeg))) (by rw [e0]; exact Ar_b1.1) (State.isArrayOf_alike hZ.alike Ar_b1.2.1) Ar_b1.2.2 (own_hin S_b1 hi24) (H_b1 _ hi24.2) (g := (mkF m 2 #[.val (.ref b1), .val (.int u1), .val (.int u2), .unset, .unset, .unset, .unset] [(.int u1), (.ref b1)])) rfl rfl (hb hby d1_2) _ ?_
    show Steps p.tables e below (s₁.setTop (mkF m 3 #[.val (.ref b1), .val (.int u1), .val (.int u2), .unset, .unset, .unset, .unset] [(.int (f_b1 u1.toNatClampNeg))])) _
    refine XS.istoreN X0.here hx rfl (hb hby d1_3) rfl (l' := #[.val (.ref b1), .val (.int u1), .val (.int u2), .val (.int (f_b1 u1.toNatClampNeg)), .unset, .unset, .unset]) rfl ?_
    show Steps p.tables e below (s₁.setTop (mkF m 4 #[.val (.ref b1), .val (.int u1), .val (.int u2), .val (.int (f_b1 u1.toNatClampNeg)), .unset, .unset, .unset] [])) _
    exact k
  exact J4 s₁ _ X0 N0 e0 (f_b1 u1.toNatClampNeg)   (by rw [own_cl_0])
theorem pd__28_5bIII_29I : parseMethodDescriptor "([III)I" = some ⟨[(.array .int), .int, .int], some .int⟩ := by decide +kernel
def own_step_0 (f_b1 : Nat → Int32) (u1 : Int32) (u2 : Int32)  : Int32 :=
  if u1 < (0 : Int32) then
    u1
  else
    if u1 < u2 then
      if (own_cl_0 f_b1 u1 u2) = (0 : Int32) then
        (-1 : Int32)
      else
        (u1 + (own_cl_0 f_b1 u1 u2))
    else
      u1
theorem d2_0 : decode method_4_code 0 = .ok (.iload_n 1, 1) := by decide +kernel
theorem d2_1 : decode method_4_code 1 = .ok (.ifCond .lt 8, 3) := by decide +kernel
theorem d2_4 : decode method_4_code 4 = .ok (.iload_n 1, 1) := by decide +kernel
theorem d2_5 : decode method_4_code 5 = .ok (.iload_n 2, 1) := by decide +kernel
theorem d2_6 : decode method_4_code 6 = .ok (.if_icmp .lt 5, 3) := by decide +kernel
theorem d2_9 : decode method_4_code 9 = .ok (.iload_n 1, 1) := by decide +kernel
theorem d2_10 : decode method_4_code 10 = .ok (.ireturn, 1) := by decide +kernel
theorem d2_11 : decode method_4_code 11 = .ok (.aload_n 0, 1) := by decide +kernel
theorem d2_12 : decode method_4_code 12 = .ok (.iload_n 1, 1) := by decide +kernel
theorem d2_13 : decode method_4_code 13 = .ok (.iload_n 2, 1) := by decide +kernel
theorem d2_14 : decode method_4_code 14 = .ok (.invokestatic 24, 3) := by decide +kernel
theorem d2_17 : decode method_4_code 17 = .ok (.istore_n 3, 1) := by decide +kernel
theorem d2_18 : decode method_4_code 18 = .ok (.iload_n 3, 1) := by decide +kernel
theorem d2_19 : decode method_4_code 19 = .ok (.ifCond .ne 7, 3) := by decide +kernel
theorem d2_22 : decode method_4_code 22 = .ok (.iconst (-1), 1) := by decide +kernel
theorem d2_23 : decode method_4_code 23 = .ok (.goto 6, 3) := by decide +kernel
theorem d2_26 : decode method_4_code 26 = .ok (.iload_n 1, 1) := by decide +kernel
theorem d2_27 : decode method_4_code 27 = .ok (.iload_n 3, 1) := by decide +kernel
theorem d2_28 : decode method_4_code 28 = .ok (.iadd, 1) := by decide +kernel
theorem d2_29 : decode method_4_code 29 = .ok (.ireturn, 1) := by decide +kernel
theorem pn_2 : plainName "com/example/fieldbook/fieldbook/StrictTextIsUtf8PinLaw" = true := by first | (simp [plainName, overriddenIn]; done) | decide +kernel
theorem ef_2 (m : MethodId) (x0 : Addr) (x1 : Int32) (x2 : Int32) : entryFrame m #[(.ref x0), (.int x1), (.int x2)] 4 = mkF m 0 #[.val (.ref x0), .val (.int x1), .val (.int x2), .unset] [] := by first | (simp [entryFrame, mkF, argsToLocals, Value.category]; done) | rfl
def Q2 (b1 : Addr) (cl_b1 : Cell) (f_b1 : Nat → Int32) (z_b1 : Int32) (u1 : Int32) (u2 : Int32) (h0 : Heap) (n0 : Nat) (v : Option Value) (h : Heap) (L : List Loc) : Prop := v = some (.int (own_step_0 f_b1 u1 u2)) ∧ Fr n0 L ∧ h = h0
set_option maxRecDepth 65536 in
set_option maxHeartbeats 40000000 in
theorem rm2 (l : Launch) (Z : State) (a0 : Array Value) (hw : ∀ d ∈ tables_1, d.before a0 Z = true) (ws : List Jvm.Cond) (b1 : Addr) (cl_b1 : Cell) (f_b1 : Nat → Int32) (z_b1 : Int32) (u1 : Int32) (u2 : Int32) (h0 : Heap) (n0 : Nat) (Z0 : n0 ≤ h0.size) (Ar_b1 : Arr Z h0 b1 cl_b1 .int) (S_b1 : cl_b1.slots.size = z_b1.toNatClampNeg) (M_b1 : ¬ z_b1 < 0) (H_b1 : ∀ i, i < z_b1.toNatClampNeg → cl_b1.slots[i]? = some (.int (f_b1 i))) (i2 : u2.toInt ≤ z_b1.toInt) :
    MetFree l (⟨"com/example/fieldbook/fieldbook/StrictTextIsUtf8PinLaw", "step", "([III)I"⟩ : MethodName) (head1 (Jvm.Cond.code (⟨"com/example/fieldbook/fieldbook/StrictTextIsUtf8PinLaw", "step", "([III)I"⟩ : MethodName) method_4_code 4 (some .int) :: ws) ({ frames := 1, cells := 0, slots := 0, locals := 18 } : Room)) (fun a U => a = #[(.ref b1), (.int u1), (.int u2)] ∧ Z.Warmed39 U.vm ∧ U.heap = h0) (fun _ _ _ _ _ => True) (fun _ U o U' => ∃ v L, o = .returned v ∧ Q2 b1 cl_b1 f_b1 z_b1 u1 u2 h0 n0 v U'.heap L ∧ FrameEnd U o U' L ({ frames := 1, cells := 0, slots := 0, locals := 18 } : Room).cells ({ frames := 1, cells := 0, slots := 0, locals := 18 } : Room).slots) := by
  refine MetFree.of_bodySF (plainFor_of_name pn_2) hisR ?_
  intro p e s m args below meth c s₁ Bd hml0 hP hK
  obtain ⟨rfl, hZ, hh⟩ := hP
  have hx := Bd.exec
  have hby := Bd.bytes
  have hml : c.maxLocals = 4 := hml0
  have hown : s.vm.findClass "com/example/fieldbook/fieldbook/StrictTextIsUtf8PinLaw" = some m.cls := findClass_of_methodNamed Bd.named
  have hnm := (name_of_methodNamed Bd.named Bd.method).1
  have X0 : Stand p l e ({ frames := 1, cells := 0, slots := 0, locals := 18 } : Room) s m #[(.ref b1), (.int u1), (.int u2)] below meth c s₁ [] 0 0 := Stand.of_body Bd
  have e0 : s₁.heap = h0 := by rw [← hh, Bd.state]; rfl
  have N0 := Fr.nil n0
  show own_Go p e below s (Q2 b1 cl_b1 f_b1 z_b1 u1 u2 h0 n0) ({ frames := 1, cells := 0, slots := 0, locals := 18 } : Room).cells ({ frames := 1, cells := 0, slots := 0, locals := 18 } : Room).slots (s₁.setTop (entryFrame m #[(.ref b1), (.int u1), (.int u2)] 4))
  refine own_go (b := s₁.setTop (mkF m 0 #[.val (.ref b1), .val (.int u1), .val (.int u2), .unset] [])) (fun t k => castTop (ef_2 m b1 u1 u2) k) ?_
  refine own_go (b := s₁.setTop (mkF m 1 #[.val (.ref b1), .val (.int u1), .val (.int u2), .unset] [(.int u1)])) (fun t k => ?_) ?_
  · show Steps p.tables e below (s₁.setTop (mkF m 0 #[.val (.ref b1), .val (.int u1), .val (.int u2), .unset] [])) _
    refine XS.iloadN X0.here hx rfl (hb hby d2_0) rfl ?_
    show Steps p.tables e below (s₁.setTop (mkF m 1 #[.val (.ref b1), .val (.int u1), .val (.int u2), .unset] [(.int u1)])) _
    exact k
  by_cases hc1 : u1 < (0 : Int32)
  · refine own_end X0 Bd.notSynchronized (v := some (.int u1)) (fun h => by rw [Bd.returns] at h; cases h) (fun fs hr => ?_) e0 ?_ (by decide) (by decide)
    · show Steps p.tables e below (s₁.setTop (mkF m 1 #[.val (.ref b1), .val (.int u1), .val (.int u2), .unset] [(.int u1)])) _
      refine XS.ifYes X0.here hx rfl (pc0 := 1) (pc' := 9) rfl (hb hby d2_1) rfl ((if0 _ _).trans (tlt hc1).1) (by decide) (by decide) ?_
      show Steps p.tables e below (s₁.setTop (mkF m 9 #[.val (.ref b1), .val (.int u1), .val (.int u2), .unset] [])) _
      refine XS.iloadN X0.here hx rfl (hb hby d2_9) rfl ?_
      show Steps p.tables e below (s₁.setTop (mkF m 10 #[.val (.ref b1), .val (.int u1), .val (.int u2), .unset] [(.int u1)])) _
      exact retI X0 hx Bd.returns (hb hby d2_10) hr
    · exact ⟨by rw [own_step_0, if_pos hc1], N0, rfl⟩
  · refine own_go (b := s₁.setTop (mkF m 6 #[.val (.ref b1), .val (.int u1), .val (.int u2), .unset] [(.int u2), (.int u1)])) (fun t k => ?_) ?_
    · show Steps p.tables e below (s₁.setTop (mkF m 1 #[.val (.ref b1), .val (.int u1), .val (.int u2), .unset] [(.int u1)])) _
      refine XS.ifNo X0.here hx rfl (hb hby d2_1) rfl ((if0 _ _).trans (flt hc1).1) ?_
      show Steps p.tables e below (s₁.setTop (mkF m 4 #[.val (.ref b1), .val (.int u1), .val (.int u2), .unset] [])) _
      refine XS.iloadN X0.here hx rfl (hb hby d2_4) rfl ?_
      show Steps p.tables e below (s₁.setTop (mkF m 5 #[.val (.ref b1), .val (.int u1), .val (.int u2), .unset] [(.int u1)])) _
      refine XS.iloadN X0.here hx rfl (hb hby d2_5) rfl ?_
      show Steps p.tables e below (s₁.setTop (mkF m 6 #[.val (.ref b1), .val (.int u1), .val (.int u2), .unset] [(.int u2), (.int u1)])) _
      exact k
    by_cases hc6 : u1 < u2
    · obtain ⟨_, _, ⟨T1, uL1, uk1, un1⟩, -, X1, ⟨Lc1, hQ1, ul1, uy1, uz1⟩, st1⟩ := Jvm.LawKit.callS X0 hx (y := (⟨"com/example/fieldbook/fieldbook/StrictTextIsUtf8PinLaw", "charLen", "([III)I"⟩ : MethodName)) hown (mvT hZ (hw _ (List.mem_of_getElem? (i := 10) rfl))) (mvT hZ (hw _ (List.mem_of_getElem? (i := 11) rfl))) (mvT hZ (hw _ (List.mem_of_getElem? (i := 5) rfl))) (mvT hZ (hw _ (List.mem_of_getElem? (i := 12) rfl))) (by decide) (backOf (W := 0) (rm1 l Z a0 hw [] b1 cl_b1 f_b1 z_b1 u1 u2 h0 n0 Z0 Ar_b1 S_b1 M_b1 H_b1 (own_nn hc1) hc6 i2) hZ (hw _ (List.mem_of_getElem? (i := 12) rfl)) (hw _ (List.mem_of_getElem? (i := 5) rfl)) (by decide) (by decide)) (g := (mkF m 14 #[.val (.ref b1), .val (.int u1), .val (.int u2), .unset] [(.int u2), (.int u1), (.ref b1)])) rfl (by rw [hml]; rfl) (argsL := [(.ref b1), (.int u1), (.int u2)]) (rest := []) (lenOf pd__28_5bIII_29I rfl) rfl (by show 2 * 0 + _ ≤ _; exact Nat.le_of_eq rfl) (hb hby d2_14) (fun _ _ => ⟨rfl, e0, (by decide : 0 + 0 ≤ _), (by decide : 0 + 0 ≤ _)⟩)
      dsimp only [Pt.U, Pt.locs, Pt.cells, Pt.slots] at X1 ul1 uy1 uz1 st1 hQ1
      subst ul1 uy1 uz1
      obtain ⟨rfl, Nq1, e1⟩ := hQ1
      have N1 := Fr.app N0 Nq1
      refine own_go (b := T1.setTop (mkF m 19 #[.val (.ref b1), .val (.int u1), .val (.int u2), .val (.int (own_cl_0 f_b1 u1 u2))] [(.int (own_cl_0 f_b1 u1 u2))])) (fun t k => ?_) ?_
      · show Steps p.tables e below (s₁.setTop (mkF m 6 #[.val (.ref b1), .val (.int u1), .val (.int u2), .unset] [(.int u2), (.int u1)])) _
        refine XS.icmpYes X0.here hx rfl (pc0 := 6) (pc' := 11) rfl (hb hby d2_6) rfl (tlt hc6).1 (by decide) (by decide) ?_
        show Steps p.tables e below (s₁.setTop (mkF m 11 #[.val (.ref b1), .val (.int u1), .val (.int u2), .unset] [])) _
        refine XS.aloadN X0.here hx rfl (hb hby d2_11) rfl rfl ?_
        show Steps p.tables e below (s₁.setTop (mkF m 12 #[.val (.ref b1), .val (.int u1), .val (.int u2), .unset] [(.ref b1)])) _
        refine XS.iloadN X0.here hx rfl (hb hby d2_12) rfl ?_
        show Steps p.tables e below (s₁.setTop (mkF m 13 #[.val (.ref b1), .val (.int u1), .val (.int u2), .unset] [(.int u1), (.ref b1)])) _
        refine XS.iloadN X0.here hx rfl (hb hby d2_13) rfl ?_
        show Steps p.tables e below (s₁.setTop (mkF m 14 #[.val (.ref b1), .val (.int u1), .val (.int u2), .unset] [(.int u2), (.int u1), (.ref b1)])) _
        refine st1 _ ?_
        show Steps p.tables e below (T1.setTop (mkF m 17 #[.val (.ref b1), .val (.int u1), .val (.int u2), .unset] [(.int (own_cl_0 f_b1 u1 u2))])) _
        refine XS.istoreN X1.here hx rfl (hb hby d2_17) rfl (l' := #[.val (.ref b1), .val (.int u1), .val (.int u2), .val (.int (own_cl_0 f_b1 u1 u2))]) rfl ?_
        show Steps p.tables e below (T1.setTop (mkF m 18 #[.val (.ref b1), .val (.int u1), .val (.int u2), .val (.int (own_cl_0 f_b1 u1 u2))] [])) _
        refine XS.iloadN X1.here hx rfl (hb hby d2_18) rfl ?_
        show Steps p.tables e below (T1.setTop (mkF m 19 #[.val (.ref b1), .val (.int u1), .val (.int u2), .val (.int (own_cl_0 f_b1 u1 u2))] [(.int (own_cl_0 f_b1 u1 u2))])) _
        exact k
      by_cases hc19 : (own_cl_0 f_b1 u1 u2) = (0 : Int32)
      · refine own_end X1 Bd.notSynchronized (v := some (.int (-1 : Int32))) (fun h => by rw [Bd.returns] at h; cases h) (fun fs hr => ?_) e1 ?_ (by decide) (by decide)
        · show Steps p.tables e below (T1.setTop (mkF m 19 #[.val (.ref b1), .val (.int u1), .val (.int u2), .val (.int (own_cl_0 f_b1 u1 u2))] [(.int (own_cl_0 f_b1 u1 u2))])) _
          refine XS.ifNo X1.here hx rfl (hb hby d2_19) rfl ((if0 _ _).trans (teq hc19).2) ?_
          show Steps p.tables e below (T1.setTop (mkF m 22 #[.val (.ref b1), .val (.int u1), .val (.int u2), .val (.int (own_cl_0 f_b1 u1 u2))] [])) _
          refine XS.iconst X1.here hx rfl (hb hby d2_22) ?_
          show Steps p.tables e below (T1.setTop (mkF m 23 #[.val (.ref b1), .val (.int u1), .val (.int u2), .val (.int (own_cl_0 f_b1 u1 u2))] [(.int (-1 : Int32))])) _
          refine XS.goto X1.here hx rfl (pc0 := 23) (pc' := 29) rfl (hb hby d2_23) (by decide) (by decide) ?_
          show Steps p.tables e below (T1.setTop (mkF m 29 #[.val (.ref b1), .val (.int u1), .val (.int u2), .val (.int (own_cl_0 f_b1 u1 u2))] [(.int (-1 : Int32))])) _
          exact retI X1 hx Bd.returns (hb hby d2_29) hr
        · exact ⟨by rw [own_step_0, if_neg hc1, if_pos hc6, if_pos hc19], N1, rfl⟩
      · refine own_end X1 Bd.notSynchronized (v := some (.int (u1 + (own_cl_0 f_b1 u1 u2)))) (fun h => by rw [Bd.returns] at h; cases h) (fun fs hr => ?_) e1 ?_ (by decide) (by decide)
        · show Steps p.tables e below (T1.setTop (mkF m 19 #[.val (.ref b1), .val (.int u1), .val (.int u2), .val (.int (own_cl_0 f_b1 u1 u2))] [(.int (own_cl_0 f_b1 u1 u2))])) _
          refine XS.ifYes X1.here hx rfl (pc0 := 19) (pc' := 26) rfl (hb hby d2_19) rfl ((if0 _ _).trans (feq hc19).2) (by decide) (by decide) ?_
          show Steps p.tables e below (T1.setTop (mkF m 26 #[.val (.ref b1), .val (.int u1), .val (.int u2), .val (.int (own_cl_0 f_b1 u1 u2))] [])) _
          refine XS.iloadN X1.here hx rfl (hb hby d2_26) rfl ?_
          show Steps p.tables e below (T1.setTop (mkF m 27 #[.val (.ref b1), .val (.int u1), .val (.int u2), .val (.int (own_cl_0 f_b1 u1 u2))] [(.int u1)])) _
          refine XS.iloadN X1.here hx rfl (hb hby d2_27) rfl ?_
          show Steps p.tables e below (T1.setTop (mkF m 28 #[.val (.ref b1), .val (.int u1), .val (.int u2), .val (.int (own_cl_0 f_b1 u1 u2))] [(.int (own_cl_0 f_b1 u1 u2)), (.int u1)])) _
          refine XS.iadd X1.here hx rfl (hb hby d2_28) rfl ?_
          show Steps p.tables e below (T1.setTop (mkF m 29 #[.val (.ref b1), .val (.int u1), .val (.int u2), .val (.int (own_cl_0 f_b1 u1 u2))] [(.int (u1 + (own_cl_0 f_b1 u1 u2)))])) _
          exact retI X1 hx Bd.returns (hb hby d2_29) hr
        · exact ⟨by rw [own_step_0, if_neg hc1, if_pos hc6, if_neg hc19], N1, rfl⟩
    · refine own_end X0 Bd.notSynchronized (v := some (.int u1)) (fun h => by rw [Bd.returns] at h; cases h) (fun fs hr => ?_) e0 ?_ (by decide) (by decide)
      · show Steps p.tables e below (s₁.setTop (mkF m 6 #[.val (.ref b1), .val (.int u1), .val (.int u2), .unset] [(.int u2), (.int u1)])) _
        refine XS.icmpNo X0.here hx rfl (hb hby d2_6) rfl (flt hc6).1 ?_
        show Steps p.tables e below (s₁.setTop (mkF m 9 #[.val (.ref b1), .val (.int u1), .val (.int u2), .unset] [])) _
        refine XS.iloadN X0.here hx rfl (hb hby d2_9) rfl ?_
        show Steps p.tables e below (s₁.setTop (mkF m 10 #[.val (.ref b1), .val (.int u1), .val (.int u2), .unset] [(.int u1)])) _
        exact retI X0 hx Bd.returns (hb hby d2_10) hr
      · exact ⟨by rw [own_step_0, if_neg hc1, if_neg hc6], N0, rfl⟩
def own_ref_0 (f_b1 : Nat → Int32) (u1 : Int32) (u2 : Int32)  : Int32 :=
  if (own_step_0 f_b1 (own_step_0 f_b1 (own_step_0 f_b1 (own_step_0 f_b1 u1 u2) u2) u2) u2) = u2 then
    (1 : Int32)
  else
    (0 : Int32)
theorem d3_0 : decode method_3_code 0 = .ok (.aload_n 0, 1) := by decide +kernel
theorem d3_1 : decode method_3_code 1 = .ok (.iload_n 1, 1) := by decide +kernel
theorem d3_2 : decode method_3_code 2 = .ok (.iload_n 2, 1) := by decide +kernel
theorem d3_3 : decode method_3_code 3 = .ok (.invokestatic 20, 3) := by decide +kernel
theorem d3_6 : decode method_3_code 6 = .ok (.istore_n 3, 1) := by decide +kernel
theorem d3_7 : decode method_3_code 7 = .ok (.aload_n 0, 1) := by decide +kernel
theorem d3_8 : decode method_3_code 8 = .ok (.iload_n 3, 1) := by decide +kernel
theorem d3_9 : decode method_3_code 9 = .ok (.iload_n 2, 1) := by decide +kernel
theorem d3_10 : decode method_3_code 10 = .ok (.invokestatic 20, 3) := by decide +kernel
theorem d3_13 : decode method_3_code 13 = .ok (.istore_n 3, 1) := by decide +kernel
theorem d3_14 : decode method_3_code 14 = .ok (.aload_n 0, 1) := by decide +kernel
theorem d3_15 : decode method_3_code 15 = .ok (.iload_n 3, 1) := by decide +kernel
theorem d3_16 : decode method_3_code 16 = .ok (.iload_n 2, 1) := by decide +kernel
theorem d3_17 : decode method_3_code 17 = .ok (.invokestatic 20, 3) := by decide +kernel
theorem d3_20 : decode method_3_code 20 = .ok (.istore_n 3, 1) := by decide +kernel
theorem d3_21 : decode method_3_code 21 = .ok (.aload_n 0, 1) := by decide +kernel
theorem d3_22 : decode method_3_code 22 = .ok (.iload_n 3, 1) := by decide +kernel
theorem d3_23 : decode method_3_code 23 = .ok (.iload_n 2, 1) := by decide +kernel
theorem d3_24 : decode method_3_code 24 = .ok (.invokestatic 20, 3) := by decide +kernel
theorem d3_27 : decode method_3_code 27 = .ok (.istore_n 3, 1) := by decide +kernel
theorem d3_28 : decode method_3_code 28 = .ok (.iload_n 3, 1) := by decide +kernel
theorem d3_29 : decode method_3_code 29 = .ok (.iload_n 2, 1) := by decide +kernel
theorem d3_30 : decode method_3_code 30 = .ok (.if_icmp .ne 7, 3) := by decide +kernel
theorem d3_33 : decode method_3_code 33 = .ok (.iconst 1, 1) := by decide +kernel
theorem d3_34 : decode method_3_code 34 = .ok (.goto 4, 3) := by decide +kernel
theorem d3_37 : decode method_3_code 37 = .ok (.iconst 0, 1) := by decide +kernel
theorem d3_38 : decode method_3_code 38 = .ok (.ireturn, 1) := by decide +kernel
theorem pn_3 : plainName "com/example/fieldbook/fieldbook/StrictTextIsUtf8PinLaw" = true := by first | (simp [plainName, overriddenIn]; done) | decide +kernel
theorem ef_3 (m : MethodId) (x0 : Addr) (x1 : Int32) (x2 : Int32) : entryFrame m #[(.ref x0), (.int x1), (.int x2)] 4 = mkF m 0 #[.val (.ref x0), .val (.int x1), .val (.int x2), .unset] [] := by first | (simp [entryFrame, mkF, argsToLocals, Value.category]; done) | rfl
def Q3 (b1 : Addr) (cl_b1 : Cell) (f_b1 : Nat → Int32) (z_b1 : Int32) (u1 : Int32) (u2 : Int32) (h0 : Heap) (n0 : Nat) (v : Option Value) (h : Heap) (L : List Loc) : Prop := v = some (.int (own_ref_0 f_b1 u1 u2)) ∧ Fr n0 L ∧ h = h0
set_option maxRecDepth 65536 in
set_option maxHeartbeats 40000000 in
theorem rm3 (l : Launch) (Z : State) (a0 : Array Value) (hw : ∀ d ∈ tables_1, d.before a0 Z = true) (ws : List Jvm.Cond) (b1 : Addr) (cl_b1 : Cell) (f_b1 : Nat → Int32) (z_b1 : Int32) (u1 : Int32) (u2 : Int32) (h0 : Heap) (n0 : Nat) (Z0 : n0 ≤ h0.size) (Ar_b1 : Arr Z h0 b1 cl_b1 .int) (S_b1 : cl_b1.slots.size = z_b1.toNatClampNeg) (M_b1 : ¬ z_b1 < 0) (H_b1 : ∀ i, i < z_b1.toNatClampNeg → cl_b1.slots[i]? = some (.int (f_b1 i))) (i2 : u2.toInt ≤ z_b1.toInt) :
    MetFree l (⟨"com/example/fieldbook/fieldbook/StrictTextIsUtf8PinLaw", "reference", "([III)Z"⟩ : MethodName) (head1 (Jvm.Cond.code (⟨"com/example/fieldbook/fieldbook/StrictTextIsUtf8PinLaw", "reference", "([III)Z"⟩ : MethodName) method_3_code 4 (some .boolean) :: ws) ({ frames := 2, cells := 0, slots := 0, locals := 33 } : Room)) (fun a U => a = #[(.ref b1), (.int u1), (.int u2)] ∧ Z.Warmed39 U.vm ∧ U.heap = h0) (fun _ _ _ _ _ => True) (fun _ U o U' => ∃ v L, o = .returned v ∧ Q3 b1 cl_b1 f_b1 z_b1 u1 u2 h0 n0 v U'.heap L ∧ FrameEnd U o U' L ({ frames := 2, cells := 0, slots := 0, locals := 33 } : Room).cells ({ frames := 2, cells := 0, slots := 0, locals := 33 } : Room).slots) := by
  refine MetFree.of_bodySF (plainFor_of_name pn_3) hisR ?_
  intro p e s m args below meth c s₁ Bd hml0 hP hK
  obtain ⟨rfl, hZ, hh⟩ := hP
  have hx := Bd.exec
  have hby := Bd.bytes
  have hml : c.maxLocals = 4 := hml0
  have hown : s.vm.findClass "com/example/fieldbook/fieldbook/StrictTextIsUtf8PinLaw" = some m.cls := findClass_of_methodNamed Bd.named
  have hnm := (name_of_methodNamed Bd.named Bd.method).1
  have X0 : Stand p l e ({ frames := 2, cells := 0, slots := 0, locals := 33 } : Room) s m #[(.ref b1), (.int u1), (.int u2)] below meth c s₁ [] 0 0 := Stand.of_body Bd
  have e0 : s₁.heap = h0 := by rw [← hh, Bd.state]; rfl
  have N0 := Fr.nil n0
  show own_Go p e below s (Q3 b1 cl_b1 f_b1 z_b1 u1 u2 h0 n0) ({ frames := 2, cells := 0, slots := 0, locals := 33 } : Room).cells ({ frames := 2, cells := 0, slots := 0, locals := 33 } : Room).slots (s₁.setTop (entryFrame m #[(.ref b1), (.int u1), (.int u2)] 4))
  refine own_go (b := s₁.setTop (mkF m 0 #[.val (.ref b1), .val (.int u1), .val (.int u2), .unset] [])) (fun t k => castTop (ef_3 m b1 u1 u2) k) ?_
  obtain ⟨_, _, ⟨T1, uL1, uk1, un1⟩, -, X1, ⟨Lc1, hQ1, ul1, uy1, uz1⟩, st1⟩ := Jvm.LawKit.callS X0 hx (y := (⟨"com/example/fieldbook/fieldbook/StrictTextIsUtf8PinLaw", "step", "([III)I"⟩ : MethodName)) hown (mvT hZ (hw _ (List.mem_of_getElem? (i := 7) rfl))) (mvT hZ (hw _ (List.mem_of_getElem? (i := 8) rfl))) (mvT hZ (hw _ (List.mem_of_getElem? (i := 5) rfl))) (mvT hZ (hw _ (List.mem_of_getElem? (i := 9) rfl))) (by decide) (backOf (W := 0) (rm2 l Z a0 hw [] b1 cl_b1 f_b1 z_b1 u1 u2 h0 n0 Z0 Ar_b1 S_b1 M_b1 H_b1 i2) hZ (hw _ (List.mem_of_getElem? (i := 9) rfl)) (hw _ (List.mem_of_getElem? (i := 5) rfl)) (by decide) (by decide)) (g := (mkF m 3 #[.val (.ref b1), .val (.int u1), .val (.int u2), .unset] [(.int u2), (.int u1), (.ref b1)])) rfl (by rw [hml]; rfl) (argsL := [(.ref b1), (.int u1), (.int u2)]) (rest := []) (lenOf pd__28_5bIII_29I rfl) rfl (by show 2 * 0 + _ ≤ _; exact Nat.le_of_eq rfl) (hb hby d3_3) (fun _ _ => ⟨rfl, e0, (by decide : 0 + 0 ≤ _), (by decide : 0 + 0 ≤ _)⟩)
  dsimp only [Pt.U, Pt.locs, Pt.cells, Pt.slots] at X1 ul1 uy1 uz1 st1 hQ1
  subst ul1 uy1 uz1
  obtain ⟨rfl, Nq1, e1⟩ := hQ1
  have N1 := Fr.app N0 Nq1
  obtain ⟨_, _, ⟨T2, uL2, uk2, un2⟩, -, X2, ⟨Lc2, hQ2, ul2, uy2, uz2⟩, st2⟩ := Jvm.LawKit.callS X1 hx (y := (⟨"com/example/fieldbook/fieldbook/StrictTextIsUtf8PinLaw", "step", "([III)I"⟩ : MethodName)) hown (mvT hZ (hw _ (List.mem_of_getElem? (i := 7) rfl))) (mvT hZ (hw _ (List.mem_of_getElem? (i := 8) rfl))) (mvT hZ (hw _ (List.mem_of_getElem? (i := 5) rfl))) (mvT hZ (hw _ (List.mem_of_getElem? (i := 9) rfl))) (by decide) (backOf (W := 0) (rm2 l Z a0 hw [] b1 cl_b1 f_b1 z_b1 (own_step_0 f_b1 u1 u2) u2 h0 n0 Z0 Ar_b1 S_b1 M_b1 H_b1 i2) hZ (hw _ (List.mem_of_getElem? (i := 9) rfl)) (hw _ (List.mem_of_getElem? (i := 5) rfl)) (by decide) (by decide)) (g := (mkF m 10 #[.val (.ref b1), .val (.int u1), .val (.int u2), .val (.int (own_step_0 f_b1 u1 u2))] [(.int u2), (.int (own_step_0 f_b1 u1 u2)), (.ref b1)])) rfl (by rw [hml]; rfl) (argsL := [(.ref b1), (.int (own_step_0 f_b1 u1 u2)), (.int u2)]) (rest := []) (lenOf pd__28_5bIII_29I rfl) rfl (by show 2 * 0 + _ ≤ _; exact Nat.le_of_eq rfl) (hb hby d3_10) (fun _ _ => ⟨rfl, e1, (by decide : 0 + 0 ≤ _), (by decide : 0 + 0 ≤ _)⟩)
  dsimp only [Pt.U, Pt.locs, Pt.cells, Pt.slots] at X2 ul2 uy2 uz2 st2 hQ2
  subst ul2 uy2 uz2
  obtain ⟨rfl, Nq2, e2⟩ := hQ2
  have N2 := Fr.app N1 Nq2
  obtain ⟨_, _, ⟨T3, uL3, uk3, un3⟩, -, X3, ⟨Lc3, hQ3, ul3, uy3, uz3⟩, st3⟩ := Jvm.LawKit.callS X2 hx (y := (⟨"com/example/fieldbook/fieldbook/StrictTextIsUtf8PinLaw", "step", "([III)I"⟩ : MethodName)) hown (mvT hZ (hw _ (List.mem_of_getElem? (i := 7) rfl))) (mvT hZ (hw _ (List.mem_of_getElem? (i := 8) rfl))) (mvT hZ (hw _ (List.mem_of_getElem? (i := 5) rfl))) (mvT hZ (hw _ (List.mem_of_getElem? (i := 9) rfl))) (by decide) (backOf (W := 0) (rm2 l Z a0 hw [] b1 cl_b1 f_b1 z_b1 (own_step_0 f_b1 (own_step_0 f_b1 u1 u2) u2) u2 h0 n0 Z0 Ar_b1 S_b1 M_b1 H_b1 i2) hZ (hw _ (List.mem_of_getElem? (i := 9) rfl)) (hw _ (List.mem_of_getElem? (i := 5) rfl)) (by decide) (by decide)) (g := (mkF m 17 #[.val (.ref b1), .val (.int u1), .val (.int u2), .val (.int (own_step_0 f_b1 (own_step_0 f_b1 u1 u2) u2))] [(.int u2), (.int (own_step_0 f_b1 (own_step_0 f_b1 u1 u2) u2)), (.ref b1)])) rfl (by rw [hml]; rfl) (argsL := [(.ref b1), (.int (own_step_0 f_b1 (own_step_0 f_b1 u1 u2) u2)), (.int u2)]) (rest := []) (lenOf pd__28_5bIII_29I rfl) rfl (by show 2 * 0 + _ ≤ _; exact Nat.le_of_eq rfl) (hb hby d3_17) (fun _ _ => ⟨rfl, e2, (by decide : 0 + 0 ≤ _), (by decide : 0 + 0 ≤ _)⟩)
  dsimp only [Pt.U, Pt.locs, Pt.cells, Pt.slots] at X3 ul3 uy3 uz3 st3 hQ3
  subst ul3 uy3 uz3
  obtain ⟨rfl, Nq3, e3⟩ := hQ3
  have N3 := Fr.app N2 Nq3
  obtain ⟨_, _, ⟨T4, uL4, uk4, un4⟩, -, X4, ⟨Lc4, hQ4, ul4, uy4, uz4⟩, st4⟩ := Jvm.LawKit.callS X3 hx (y := (⟨"com/example/fieldbook/fieldbook/StrictTextIsUtf8PinLaw", "step", "([III)I"⟩ : MethodName)) hown (mvT hZ (hw _ (List.mem_of_getElem? (i := 7) rfl))) (mvT hZ (hw _ (List.mem_of_getElem? (i := 8) rfl))) (mvT hZ (hw _ (List.mem_of_getElem? (i := 5) rfl))) (mvT hZ (hw _ (List.mem_of_getElem? (i := 9) rfl))) (by decide) (backOf (W := 0) (rm2 l Z a0 hw [] b1 cl_b1 f_b1 z_b1 (own_step_0 f_b1 (own_step_0 f_b1 (own_step_0 f_b1 u1 u2) u2) u2) u2 h0 n0 Z0 Ar_b1 S_b1 M_b1 H_b1 i2) hZ (hw _ (List.mem_of_getElem? (i := 9) rfl)) (hw _ (List.mem_of_getElem? (i := 5) rfl)) (by decide) (by decide)) (g := (mkF m 24 #[.val (.ref b1), .val (.int u1), .val (.int u2), .val (.int (own_step_0 f_b1 (own_step_0 f_b1 (own_step_0 f_b1 u1 u2) u2) u2))] [(.int u2), (.int (own_step_0 f_b1 (own_step_0 f_b1 (own_step_0 f_b1 u1 u2) u2) u2)), (.ref b1)])) rfl (by rw [hml]; rfl) (argsL := [(.ref b1), (.int (own_step_0 f_b1 (own_step_0 f_b1 (own_step_0 f_b1 u1 u2) u2) u2)), (.int u2)]) (rest := []) (lenOf pd__28_5bIII_29I rfl) rfl (by show 2 * 0 + _ ≤ _; exact Nat.le_of_eq rfl) (hb hby d3_24) (fun _ _ => ⟨rfl, e3, (by decide : 0 + 0 ≤ _), (by decide : 0 + 0 ≤ _)⟩)
  dsimp only [Pt.U, Pt.locs, Pt.cells, Pt.slots] at X4 ul4 uy4 uz4 st4 hQ4
  subst ul4 uy4 uz4
  obtain ⟨rfl, Nq4, e4⟩ := hQ4
  have N4 := Fr.app N3 Nq4
  refine own_go (b := T4.setTop (mkF m 30 #[.val (.ref b1), .val (.int u1), .val (.int u2), .val (.int (own_step_0 f_b1 (own_step_0 f_b1 (own_step_0 f_b1 (own_step_0 f_b1 u1 u2) u2) u2) u2))] [(.int u2), (.int (own_step_0 f_b1 (own_step_0 f_b1 (own_step_0 f_b1 (own_step_0 f_b1 u1 u2) u2) u2) u2))])) (fun t k => ?_) ?_
  · show Steps p.tables e below (s₁.setTop (mkF m 0 #[.val (.ref b1), .val (.int u1), .val (.int u2), .unset] [])) _
    refine XS.aloadN X0.here hx rfl (hb hby d3_0) rfl rfl ?_
    show Steps p.tables e below (s₁.setTop (mkF m 1 #[.val (.ref b1), .val (.int u1), .val (.int u2), .unset] [(.ref b1)])) _
    refine XS.iloadN X0.here hx rfl (hb hby d3_1) rfl ?_
    show Steps p.tables e below (s₁.setTop (mkF m 2 #[.val (.ref b1), .val (.int u1), .val (.int u2), .unset] [(.int u1), (.ref b1)])) _
    refine XS.iloadN X0.here hx rfl (hb hby d3_2) rfl ?_
    show Steps p.tables e below (s₁.setTop (mkF m 3 #[.val (.ref b1), .val (.int u1), .val (.int u2), .unset] [(.int u2), (.int u1), (.ref b1)])) _
    refine st1 _ ?_
    show Steps p.tables e below (T1.setTop (mkF m 6 #[.val (.ref b1), .val (.int u1), .val (.int u2), .unset] [(.int (own_step_0 f_b1 u1 u2))])) _
    refine XS.istoreN X1.here hx rfl (hb hby d3_6) rfl (l' := #[.val (.ref b1), .val (.int u1), .val (.int u2), .val (.int (own_step_0 f_b1 u1 u2))]) rfl ?_
    show Steps p.tables e below (T1.setTop (mkF m 7 #[.val (.ref b1), .val (.int u1), .val (.int u2), .val (.int (own_step_0 f_b1 u1 u2))] [])) _
    refine XS.aloadN X1.here hx rfl (hb hby d3_7) rfl rfl ?_
    show Steps p.tables e below (T1.setTop (mkF m 8 #[.val (.ref b1), .val (.int u1), .val (.int u2), .val (.int (own_step_0 f_b1 u1 u2))] [(.ref b1)])) _
    refine XS.iloadN X1.here hx rfl (hb hby d3_8) rfl ?_
    show Steps p.tables e below (T1.setTop (mkF m 9 #[.val (.ref b1), .val (.int u1), .val (.int u2), .val (.int (own_step_0 f_b1 u1 u2))] [(.int (own_step_0 f_b1 u1 u2)), (.ref b1)])) _
    refine XS.iloadN X1.here hx rfl (hb hby d3_9) rfl ?_
    show Steps p.tables e below (T1.setTop (mkF m 10 #[.val (.ref b1), .val (.int u1), .val (.int u2), .val (.int (own_step_0 f_b1 u1 u2))] [(.int u2), (.int (own_step_0 f_b1 u1 u2)), (.ref b1)])) _
    refine st2 _ ?_
    show Steps p.tables e below (T2.setTop (mkF m 13 #[.val (.ref b1), .val (.int u1), .val (.int u2), .val (.int (own_step_0 f_b1 u1 u2))] [(.int (own_step_0 f_b1 (own_step_0 f_b1 u1 u2) u2))])) _
    refine XS.istoreN X2.here hx rfl (hb hby d3_13) rfl (l' := #[.val (.ref b1), .val (.int u1), .val (.int u2), .val (.int (own_step_0 f_b1 (own_step_0 f_b1 u1 u2) u2))]) rfl ?_
    show Steps p.tables e below (T2.setTop (mkF m 14 #[.val (.ref b1), .val (.int u1), .val (.int u2), .val (.int (own_step_0 f_b1 (own_step_0 f_b1 u1 u2) u2))] [])) _
    refine XS.aloadN X2.here hx rfl (hb hby d3_14) rfl rfl ?_
    show Steps p.tables e below (T2.setTop (mkF m 15 #[.val (.ref b1), .val (.int u1), .val (.int u2), .val (.int (own_step_0 f_b1 (own_step_0 f_b1 u1 u2) u2))] [(.ref b1)])) _
    refine XS.iloadN X2.here hx rfl (hb hby d3_15) rfl ?_
    show Steps p.tables e below (T2.setTop (mkF m 16 #[.val (.ref b1), .val (.int u1), .val (.int u2), .val (.int (own_step_0 f_b1 (own_step_0 f_b1 u1 u2) u2))] [(.int (own_step_0 f_b1 (own_step_0 f_b1 u1 u2) u2)), (.ref b1)])) _
    refine XS.iloadN X2.here hx rfl (hb hby d3_16) rfl ?_
    show Steps p.tables e below (T2.setTop (mkF m 17 #[.val (.ref b1), .val (.int u1), .val (.int u2), .val (.int (own_step_0 f_b1 (own_step_0 f_b1 u1 u2) u2))] [(.int u2), (.int (own_step_0 f_b1 (own_step_0 f_b1 u1 u2) u2)), (.ref b1)])) _
    refine st3 _ ?_
    show Steps p.tables e below (T3.setTop (mkF m 20 #[.val (.ref b1), .val (.int u1), .val (.int u2), .val (.int (own_step_0 f_b1 (own_step_0 f_b1 u1 u2) u2))] [(.int (own_step_0 f_b1 (own_step_0 f_b1 (own_step_0 f_b1 u1 u2) u2) u2))])) _
    refine XS.istoreN X3.here hx rfl (hb hby d3_20) rfl (l' := #[.val (.ref b1), .val (.int u1), .val (.int u2), .val (.int (own_step_0 f_b1 (own_step_0 f_b1 (own_step_0 f_b1 u1 u2) u2) u2))]) rfl ?_
    show Steps p.tables e below (T3.setTop (mkF m 21 #[.val (.ref b1), .val (.int u1), .val (.int u2), .val (.int (own_step_0 f_b1 (own_step_0 f_b1 (own_step_0 f_b1 u1 u2) u2) u2))] [])) _
    refine XS.aloadN X3.here hx rfl (hb hby d3_21) rfl rfl ?_
    show Steps p.tables e below (T3.setTop (mkF m 22 #[.val (.ref b1), .val (.int u1), .val (.int u2), .val (.int (own_step_0 f_b1 (own_step_0 f_b1 (own_step_0 f_b1 u1 u2) u2) u2))] [(.ref b1)])) _
    refine XS.iloadN X3.here hx rfl (hb hby d3_22) rfl ?_
    show Steps p.tables e below (T3.setTop (mkF m 23 #[.val (.ref b1), .val (.int u1), .val (.int u2), .val (.int (own_step_0 f_b1 (own_step_0 f_b1 (own_step_0 f_b1 u1 u2) u2) u2))] [(.int (own_step_0 f_b1 (own_step_0 f_b1 (own_step_0 f_b1 u1 u2) u2) u2)), (.ref b1)])) _
    refine XS.iloadN X3.here hx rfl (hb hby d3_23) rfl ?_
    show Steps p.tables e below (T3.setTop (mkF m 24 #[.val (.ref b1), .val (.int u1), .val (.int u2), .val (.int (own_step_0 f_b1 (own_step_0 f_b1 (own_step_0 f_b1 u1 u2) u2) u2))] [(.int u2), (.int (own_step_0 f_b1 (own_step_0 f_b1 (own_step_0 f_b1 u1 u2) u2) u2)), (.ref b1)])) _
    refine st4 _ ?_
    show Steps p.tables e below (T4.setTop (mkF m 27 #[.val (.ref b1), .val (.int u1), .val (.int u2), .val (.int (own_step_0 f_b1 (own_step_0 f_b1 (own_step_0 f_b1 u1 u2) u2) u2))] [(.int (own_step_0 f_b1 (own_step_0 f_b1 (own_step_0 f_b1 (own_step_0 f_b1 u1 u2) u2) u2) u2))])) _
    refine XS.istoreN X4.here hx rfl (hb hby d3_27) rfl (l' := #[.val (.ref b1), .val (.int u1), .val (.int u2), .val (.int (own_step_0 f_b1 (own_step_0 f_b1 (own_step_0 f_b1 (own_step_0 f_b1 u1 u2) u2) u2) u2))]) rfl ?_
    show Steps p.tables e below (T4.setTop (mkF m 28 #[.val (.ref b1), .val (.int u1), .val (.int u2), .val (.int (own_step_0 f_b1 (own_step_0 f_b1 (own_step_0 f_b1 (own_step_0 f_b1 u1 u2) u2) u2) u2))] [])) _
    refine XS.iloadN X4.here hx rfl (hb hby d3_28) rfl ?_
    show Steps p.tables e below (T4.setTop (mkF m 29 #[.val (.ref b1), .val (.int u1), .val (.int u2), .val (.int (own_step_0 f_b1 (own_step_0 f_b1 (own_step_0 f_b1 (own_step_0 f_b1 u1 u2) u2) u2) u2))] [(.int (own_step_0 f_b1 (own_step_0 f_b1 (own_step_0 f_b1 (own_step_0 f_b1 u1 u2) u2) u2) u2))])) _
    refine XS.iloadN X4.here hx rfl (hb hby d3_29) rfl ?_
    show Steps p.tables e below (T4.setTop (mkF m 30 #[.val (.ref b1), .val (.int u1), .val (.int u2), .val (.int (own_step_0 f_b1 (own_step_0 f_b1 (own_step_0 f_b1 (own_step_0 f_b1 u1 u2) u2) u2) u2))] [(.int u2), (.int (own_step_0 f_b1 (own_step_0 f_b1 (own_step_0 f_b1 (own_step_0 f_b1 u1 u2) u2) u2) u2))])) _
    exact k
  by_cases hc30 : (own_step_0 f_b1 (own_step_0 f_b1 (own_step_0 f_b1 (own_step_0 f_b1 u1 u2) u2) u2) u2) = u2
  · refine own_end X4 Bd.notSynchronized (v := some (.int (1 : Int32))) (fun h => by rw [Bd.returns] at h; cases h) (fun fs hr => ?_) e4 ?_ (by decide) (by decide)
    · show Steps p.tables e below (T4.setTop (mkF m 30 #[.val (.ref b1), .val (.int u1), .val (.int u2), .val (.int (own_step_0 f_b1 (own_step_0 f_b1 (own_step_0 f_b1 (own_step_0 f_b1 u1 u2) u2) u2) u2))] [(.int u2), (.int (own_step_0 f_b1 (own_step_0 f_b1 (own_step_0 f_b1 (own_step_0 f_b1 u1 u2) u2) u2) u2))])) _
      refine XS.icmpNo X4.here hx rfl (hb hby d3_30) rfl (teq hc30).2 ?_
      show Steps p.tables e below (T4.setTop (mkF m 33 #[.val (.ref b1), .val (.int u1), .val (.int u2), .val (.int (own_step_0 f_b1 (own_step_0 f_b1 (own_step_0 f_b1 (own_step_0 f_b1 u1 u2) u2) u2) u2))] [])) _
      refine XS.iconst X4.here hx rfl (hb hby d3_33) ?_
      show Steps p.tables e below (T4.setTop (mkF m 34 #[.val (.ref b1), .val (.int u1), .val (.int u2), .val (.int (own_step_0 f_b1 (own_step_0 f_b1 (own_step_0 f_b1 (own_step_0 f_b1 u1 u2) u2) u2) u2))] [(.int (1 : Int32))])) _
      refine XS.goto X4.here hx rfl (pc0 := 34) (pc' := 38) rfl (hb hby d3_34) (by decide) (by decide) ?_
      show Steps p.tables e below (T4.setTop (mkF m 38 #[.val (.ref b1), .val (.int u1), .val (.int u2), .val (.int (own_step_0 f_b1 (own_step_0 f_b1 (own_step_0 f_b1 (own_step_0 f_b1 u1 u2) u2) u2) u2))] [(.int (1 : Int32))])) _
      exact retN X4 hx (t := .boolean) Bd.returns (by simp) (hb hby d3_38) hr
    · exact ⟨by rw [own_ref_0, if_pos hc30], N4, rfl⟩
  · refine own_end X4 Bd.notSynchronized (v := some (.int (0 : Int32))) (fun h => by rw [Bd.returns] at h; cases h) (fun fs hr => ?_) e4 ?_ (by decide) (by decide)
    · show Steps p.tables e below (T4.setTop (mkF m 30 #[.val (.ref b1), .val (.int u1), .val (.int u2), .val (.int (own_step_0 f_b1 (own_step_0 f_b1 (own_step_0 f_b1 (own_step_0 f_b1 u1 u2) u2) u2) u2))] [(.int u2), (.int (own_step_0 f_b1 (own_step_0 f_b1 (own_step_0 f_b1 (own_step_0 f_b1 u1 u2) u2) u2) u2))])) _
      refine XS.icmpYes X4.here hx rfl (pc0 := 30) (pc' := 37) rfl (hb hby d3_30) rfl (feq hc30).2 (by decide) (by decide) ?_
      show Steps p.tables e below (T4.setTop (mkF m 37 #[.val (.ref b1), .val (.int u1), .val (.int u2), .val (.int (own_step_0 f_b1 (own_step_0 f_b1 (own_step_0 f_b1 (own_step_0 f_b1 u1 u2) u2) u2) u2))] [])) _
      refine XS.iconst X4.here hx rfl (hb hby d3_37) ?_
      show Steps p.tables e below (T4.setTop (mkF m 38 #[.val (.ref b1), .val (.int u1), .val (.int u2), .val (.int (own_step_0 f_b1 (own_step_0 f_b1 (own_step_0 f_b1 (own_step_0 f_b1 u1 u2) u2) u2) u2))] [(.int (0 : Int32))])) _
      exact retN X4 hx (t := .boolean) Bd.returns (by simp) (hb hby d3_38) hr
    · exact ⟨by rw [own_ref_0, if_neg hc30], N4, rfl⟩
def own_ch_226_3 (f_b1 : Nat → Int32) (en : Int32) (i : Int32) (j226_3_5 : Int32) (j226_3_7 : Int32) (j226_3_8 : Int32) (j226_3_9 : Int32) : Int32 :=
  if ((f_b1 (i + (2 : Int32)).toNatClampNeg) &&& (192 : Int32)) = (128 : Int32) then
    if ((f_b1 (i + (3 : Int32)).toNatClampNeg) &&& (192 : Int32)) = (128 : Int32) then
      (4 : Int32)
    else
      (0 : Int32)
  else
    (0 : Int32)
def own_ch_226_2 (f_b1 : Nat → Int32) (en : Int32) (i : Int32) (j226_2_5 : Int32) (j226_2_7 : Int32) (j226_2_8 : Int32) (j226_2_9 : Int32) : Int32 :=
  if ((f_b1 (i + (2 : Int32)).toNatClampNeg) &&& (192 : Int32)) = (128 : Int32) then
    (3 : Int32)
  else
    (0 : Int32)
def own_ch_226_1 (f_b1 : Nat → Int32) (en : Int32) (i : Int32) (j226_1_5 : Int32) (j226_1_9 : Int32) : Int32 :=
  (2 : Int32)
def own_ch_210_3_144_191 (f_b1 : Nat → Int32) (en : Int32) (i : Int32) (j210_3_144_191_5 : Int32) (j210_3_144_191_9 : Int32) : Int32 :=
  if j210_3_144_191_9 < (144 : Int32) then
    (0 : Int32)
  else
    if (191 : Int32) < j210_3_144_191_9 then
      (0 : Int32)
    else
      own_ch_226_3 f_b1 en i j210_3_144_191_5 (144 : Int32) (191 : Int32) j210_3_144_191_9
def own_ch_210_3_144_143 (f_b1 : Nat → Int32) (en : Int32) (i : Int32) (j210_3_144_143_5 : Int32) (j210_3_144_143_9 : Int32) : Int32 :=
  if j210_3_144_143_9 < (144 : Int32) then
    (0 : Int32)
  else
    if (143 : Int32) < j210_3_144_143_9 then
      (0 : Int32)
    else
      own_ch_226_3 f_b1 en i j210_3_144_143_5 (144 : Int32) (143 : Int32) j210_3_144_143_9
def own_ch_210_3_128_191 (f_b1 : Nat → Int32) (en : Int32) (i : Int32) (j210_3_128_191_5 : Int32) (j210_3_128_191_9 : Int32) : Int32 :=
  if j210_3_128_191_9 < (128 : Int32) then
    (0 : Int32)
  else
    if (191 : Int32) < j210_3_128_191_9 then
      (0 : Int32)
    else
      own_ch_226_3 f_b1 en i j210_3_128_191_5 (128 : Int32) (191 : Int32) j210_3_128_191_9
def own_ch_210_3_128_143 (f_b1 : Nat → Int32) (en : Int32) (i : Int32) (j210_3_128_143_5 : Int32) (j210_3_128_143_9 : Int32) : Int32 :=
  if j210_3_128_143_9 < (128 : Int32) then
    (0 : Int32)
  else
    if (143 : Int32) < j210_3_128_143_9 then
      (0 : Int32)
    else
      own_ch_226_3 f_b1 en i j210_3_128_143_5 (128 : Int32) (143 : Int32) j210_3_128_143_9
def own_ch_210_2_160_191 (f_b1 : Nat → Int32) (en : Int32) (i : Int32) (j210_2_160_191_5 : Int32) (j210_2_160_191_9 : Int32) : Int32 :=
  if j210_2_160_191_9 < (160 : Int32) then
    (0 : Int32)
  else
    if (191 : Int32) < j210_2_160_191_9 then
      (0 : Int32)
    else
      own_ch_226_2 f_b1 en i j210_2_160_191_5 (160 : Int32) (191 : Int32) j210_2_160_191_9
def own_ch_210_2_160_159 (f_b1 : Nat → Int32) (en : Int32) (i : Int32) (j210_2_160_159_5 : Int32) (j210_2_160_159_9 : Int32) : Int32 :=
  if j210_2_160_159_9 < (160 : Int32) then
    (0 : Int32)
  else
    if (159 : Int32) < j210_2_160_159_9 then
      (0 : Int32)
    else
      own_ch_226_2 f_b1 en i j210_2_160_159_5 (160 : Int32) (159 : Int32) j210_2_160_159_9
def own_ch_210_2_128_191 (f_b1 : Nat → Int32) (en : Int32) (i : Int32) (j210_2_128_191_5 : Int32) (j210_2_128_191_9 : Int32) : Int32 :=
  if j210_2_128_191_9 < (128 : Int32) then
    (0 : Int32)
  else
    if (191 : Int32) < j210_2_128_191_9 then
      (0 : Int32)
    else
      own_ch_226_2 f_b1 en i j210_2_128_191_5 (128 : Int32) (191 : Int32) j210_2_128_191_9
def own_ch_210_2_128_159 (f_b1 : Nat → Int32) (en : Int32) (i : Int32) (j210_2_128_159_5 : Int32) (j210_2_128_159_9 : Int32) : Int32 :=
  if j210_2_128_159_9 < (128 : Int32) then
    (0 : Int32)
  else
    if (159 : Int32) < j210_2_128_159_9 then
      (0 : Int32)
    else
      own_ch_226_2 f_b1 en i j210_2_128_159_5 (128 : Int32) (159 : Int32) j210_2_128_159_9
def own_ch_210_1_128_191 (f_b1 : Nat → Int32) (en : Int32) (i : Int32) (j210_1_128_191_5 : Int32) (j210_1_128_191_9 : Int32) : Int32 :=
  if j210_1_128_191_9 < (128 : Int32) then
    (0 : Int32)
  else
    if (191 : Int32) < j210_1_128_191_9 then
      (0 : Int32)
    else
      own_ch_226_1 f_b1 en i j210_1_128_191_5 j210_1_128_191_9
def own_ch_187_3_144_191 (f_b1 : Nat → Int32) (en : Int32) (i : Int32) (j187_3_144_191_5 : Int32) : Int32 :=
  if (3 : Int32) < (en - i) then
    own_ch_210_3_144_191 f_b1 en i j187_3_144_191_5 ((f_b1 (i + (1 : Int32)).toNatClampNeg) &&& (255 : Int32))
  else
    (0 : Int32)
def own_ch_187_3_144_143 (f_b1 : Nat → Int32) (en : Int32) (i : Int32) (j187_3_144_143_5 : Int32) : Int32 :=
  if (3 : Int32) < (en - i) then
    own_ch_210_3_144_143 f_b1 en i j187_3_144_143_5 ((f_b1 (i + (1 : Int32)).toNatClampNeg) &&& (255 : Int32))
  else
    (0 : Int32)
def own_ch_187_3_128_191 (f_b1 : Nat → Int32) (en : Int32) (i : Int32) (j187_3_128_191_5 : Int32) : Int32 :=
  if (3 : Int32) < (en - i) then
    own_ch_210_3_128_191 f_b1 en i j187_3_128_191_5 ((f_b1 (i + (1 : Int32)).toNatClampNeg) &&& (255 : Int32))
  else
    (0 : Int32)
def own_ch_187_3_128_143 (f_b1 : Nat → Int32) (en : Int32) (i : Int32) (j187_3_128_143_5 : Int32) : Int32 :=
  if (3 : Int32) < (en - i) then
    own_ch_210_3_128_143 f_b1 en i j187_3_128_143_5 ((f_b1 (i + (1 : Int32)).toNatClampNeg) &&& (255 : Int32))
  else
    (0 : Int32)
def own_ch_187_2_160_191 (f_b1 : Nat → Int32) (en : Int32) (i : Int32) (j187_2_160_191_5 : Int32) : Int32 :=
  if (2 : Int32) < (en - i) then
    own_ch_210_2_160_191 f_b1 en i j187_2_160_191_5 ((f_b1 (i + (1 : Int32)).toNatClampNeg) &&& (255 : Int32))
  else
    (0 : Int32)
def own_ch_187_2_160_159 (f_b1 : Nat → Int32) (en : Int32) (i : Int32) (j187_2_160_159_5 : Int32) : Int32 :=
  if (2 : Int32) < (en - i) then
    own_ch_210_2_160_159 f_b1 en i j187_2_160_159_5 ((f_b1 (i + (1 : Int32)).toNatClampNeg) &&& (255 : Int32))
  else
    (0 : Int32)
def own_ch_187_2_128_191 (f_b1 : Nat → Int32) (en : Int32) (i : Int32) (j187_2_128_191_5 : Int32) : Int32 :=
  if (2 : Int32) < (en - i) then
    own_ch_210_2_128_191 f_b1 en i j187_2_128_191_5 ((f_b1 (i + (1 : Int32)).toNatClampNeg) &&& (255 : Int32))
  else
    (0 : Int32)
def own_ch_187_2_128_159 (f_b1 : Nat → Int32) (en : Int32) (i : Int32) (j187_2_128_159_5 : Int32) : Int32 :=
  if (2 : Int32) < (en - i) then
    own_ch_210_2_128_159 f_b1 en i j187_2_128_159_5 ((f_b1 (i + (1 : Int32)).toNatClampNeg) &&& (255 : Int32))
  else
    (0 : Int32)
def own_ch_187_1_128_191 (f_b1 : Nat → Int32) (en : Int32) (i : Int32) (j187_1_128_191_5 : Int32) : Int32 :=
  if (1 : Int32) < (en - i) then
    own_ch_210_1_128_191 f_b1 en i j187_1_128_191_5 ((f_b1 (i + (1 : Int32)).toNatClampNeg) &&& (255 : Int32))
  else
    (0 : Int32)
def own_ch_127 (f_b1 : Nat → Int32) (en : Int32) (i : Int32) (j127_5 : Int32) : Int32 :=
  if j127_5 < (240 : Int32) then
    (0 : Int32)
  else
    if (244 : Int32) < j127_5 then
      (0 : Int32)
    else
      if j127_5 = (240 : Int32) then
        if j127_5 = (244 : Int32) then
          own_ch_187_3_144_143 f_b1 en i j127_5
        else
          own_ch_187_3_144_191 f_b1 en i j127_5
      else
        if j127_5 = (244 : Int32) then
          own_ch_187_3_128_143 f_b1 en i j127_5
        else
          own_ch_187_3_128_191 f_b1 en i j127_5
def own_ch_69 (f_b1 : Nat → Int32) (en : Int32) (i : Int32) (j69_5 : Int32) : Int32 :=
  if j69_5 < (224 : Int32) then
    own_ch_127 f_b1 en i j69_5
  else
    if (239 : Int32) < j69_5 then
      own_ch_127 f_b1 en i j69_5
    else
      if j69_5 = (224 : Int32) then
        if j69_5 = (237 : Int32) then
          own_ch_187_2_160_159 f_b1 en i j69_5
        else
          own_ch_187_2_160_191 f_b1 en i j69_5
      else
        if j69_5 = (237 : Int32) then
          own_ch_187_2_128_159 f_b1 en i j69_5
        else
          own_ch_187_2_128_191 f_b1 en i j69_5
def own_ch_23 (f_b1 : Nat → Int32) (en : Int32) (i : Int32) (j23_5 : Int32) : Int32 :=
  if j23_5 < (128 : Int32) then
    (1 : Int32)
  else
    if j23_5 < (194 : Int32) then
      own_ch_69 f_b1 en i j23_5
    else
      if (223 : Int32) < j23_5 then
        own_ch_69 f_b1 en i j23_5
      else
        own_ch_187_1_128_191 f_b1 en i j23_5
def own_ch_0 (f_b1 : Nat → Int32) (en : Int32) (i : Int32)  : Int32 :=
  own_ch_23 f_b1 en i ((f_b1 i.toNatClampNeg) &&& (255 : Int32))
def own_u8A (f_b1 : Nat → Int32) (en : Int32) : Nat → Int32 → Int32
  | 0, _ => (1 : Int32)
  | k + 1, i => if i < en then (if own_ch_0 f_b1 en i = (0 : Int32) then (0 : Int32) else own_u8A f_b1 en k (i + own_ch_0 f_b1 en i)) else (1 : Int32)
def own_u8_0 (f_b1 : Nat → Int32) (u1 u2 : Int32) : Int32 := own_u8A f_b1 (u1 + u2) (u1 + u2).toNatClampNeg u1
theorem d4_0 : decode prog_212_method_12_code 0 = .ok (.iload_n 1, 1) := by decide +kernel
theorem d4_1 : decode prog_212_method_12_code 1 = .ok (.iload_n 2, 1) := by decide +kernel
theorem d4_2 : decode prog_212_method_12_code 2 = .ok (.iadd, 1) := by decide +kernel
theorem d4_3 : decode prog_212_method_12_code 3 = .ok (.istore_n 3, 1) := by decide +kernel
theorem d4_4 : decode prog_212_method_12_code 4 = .ok (.iload_n 1, 1) := by decide +kernel
theorem d4_5 : decode prog_212_method_12_code 5 = .ok (.istore 4, 2) := by decide +kernel
theorem d4_7 : decode prog_212_method_12_code 7 = .ok (.iload 4, 2) := by decide +kernel
theorem d4_9 : decode prog_212_method_12_code 9 = .ok (.iload_n 3, 1) := by decide +kernel
theorem d4_10 : decode prog_212_method_12_code 10 = .ok (.if_icmp .ge 263, 3) := by decide +kernel
theorem d4_13 : decode prog_212_method_12_code 13 = .ok (.aload_n 0, 1) := by decide +kernel
theorem d4_14 : decode prog_212_method_12_code 14 = .ok (.iload 4, 2) := by decide +kernel
theorem d4_16 : decode prog_212_method_12_code 16 = .ok (.baload, 1) := by decide +kernel
theorem d4_17 : decode prog_212_method_12_code 17 = .ok (.sipush 255, 3) := by decide +kernel
theorem d4_20 : decode prog_212_method_12_code 20 = .ok (.iand, 1) := by decide +kernel
theorem d4_21 : decode prog_212_method_12_code 21 = .ok (.istore 5, 2) := by decide +kernel
theorem d4_23 : decode prog_212_method_12_code 23 = .ok (.iload 5, 2) := by decide +kernel
theorem d4_25 : decode prog_212_method_12_code 25 = .ok (.sipush 128, 3) := by decide +kernel
theorem d4_28 : decode prog_212_method_12_code 28 = .ok (.if_icmp .ge 9, 3) := by decide +kernel
theorem d4_31 : decode prog_212_method_12_code 31 = .ok (.iinc 4 1, 3) := by decide +kernel
theorem d4_34 : decode prog_212_method_12_code 34 = .ok (.goto 236, 3) := by decide +kernel
theorem d4_37 : decode prog_212_method_12_code 37 = .ok (.sipush 128, 3) := by decide +kernel
theorem d4_40 : decode prog_212_method_12_code 40 = .ok (.istore 7, 2) := by decide +kernel
theorem d4_42 : decode prog_212_method_12_code 42 = .ok (.sipush 191, 3) := by decide +kernel
theorem d4_45 : decode prog_212_method_12_code 45 = .ok (.istore 8, 2) := by decide +kernel
theorem d4_47 : decode prog_212_method_12_code 47 = .ok (.iload 5, 2) := by decide +kernel
theorem d4_49 : decode prog_212_method_12_code 49 = .ok (.sipush 194, 3) := by decide +kernel
theorem d4_52 : decode prog_212_method_12_code 52 = .ok (.if_icmp .lt 17, 3) := by decide +kernel
theorem d4_55 : decode prog_212_method_12_code 55 = .ok (.iload 5, 2) := by decide +kernel
theorem d4_57 : decode prog_212_method_12_code 57 = .ok (.sipush 223, 3) := by decide +kernel
theorem d4_60 : decode prog_212_method_12_code 60 = .ok (.if_icmp .gt 9, 3) := by decide +kernel
theorem d4_63 : decode prog_212_method_12_code 63 = .ok (.iconst 1, 1) := by decide +kernel
theorem d4_64 : decode prog_212_method_12_code 64 = .ok (.istore 6, 2) := by decide +kernel
theorem d4_66 : decode prog_212_method_12_code 66 = .ok (.goto 121, 3) := by decide +kernel
theorem d4_69 : decode prog_212_method_12_code 69 = .ok (.iload 5, 2) := by decide +kernel
theorem d4_71 : decode prog_212_method_12_code 71 = .ok (.sipush 224, 3) := by decide +kernel
theorem d4_74 : decode prog_212_method_12_code 74 = .ok (.if_icmp .lt 53, 3) := by decide +kernel
theorem d4_77 : decode prog_212_method_12_code 77 = .ok (.iload 5, 2) := by decide +kernel
theorem d4_79 : decode prog_212_method_12_code 79 = .ok (.sipush 239, 3) := by decide +kernel
theorem d4_82 : decode prog_212_method_12_code 82 = .ok (.if_icmp .gt 45, 3) := by decide +kernel
theorem d4_85 : decode prog_212_method_12_code 85 = .ok (.iconst 2, 1) := by decide +kernel
theorem d4_86 : decode prog_212_method_12_code 86 = .ok (.istore 6, 2) := by decide +kernel
theorem d4_88 : decode prog_212_method_12_code 88 = .ok (.iload 5, 2) := by decide +kernel
theorem d4_90 : decode prog_212_method_12_code 90 = .ok (.sipush 224, 3) := by decide +kernel
theorem d4_93 : decode prog_212_method_12_code 93 = .ok (.if_icmp .ne 9, 3) := by decide +kernel
theorem d4_96 : decode prog_212_method_12_code 96 = .ok (.sipush 160, 3) := by decide +kernel
theorem d4_99 : decode prog_212_method_12_code 99 = .ok (.goto 5, 3) := by decide +kernel
theorem d4_102 : decode prog_212_method_12_code 102 = .ok (.iload 7, 2) := by decide +kernel
theorem d4_104 : decode prog_212_method_12_code 104 = .ok (.istore 7, 2) := by decide +kernel
theorem d4_106 : decode prog_212_method_12_code 106 = .ok (.iload 5, 2) := by decide +kernel
theorem d4_108 : decode prog_212_method_12_code 108 = .ok (.sipush 237, 3) := by decide +kernel
theorem d4_111 : decode prog_212_method_12_code 111 = .ok (.if_icmp .ne 9, 3) := by decide +kernel
theorem d4_114 : decode prog_212_method_12_code 114 = .ok (.sipush 159, 3) := by decide +kernel
theorem d4_117 : decode prog_212_method_12_code 117 = .ok (.goto 5, 3) := by decide +kernel
theorem d4_120 : decode prog_212_method_12_code 120 = .ok (.iload 8, 2) := by decide +kernel
theorem d4_122 : decode prog_212_method_12_code 122 = .ok (.istore 8, 2) := by decide +kernel
theorem d4_124 : decode prog_212_method_12_code 124 = .ok (.goto 63, 3) := by decide +kernel
theorem d4_127 : decode prog_212_method_12_code 127 = .ok (.iload 5, 2) := by decide +kernel
theorem d4_129 : decode prog_212_method_12_code 129 = .ok (.sipush 240, 3) := by decide +kernel
theorem d4_132 : decode prog_212_method_12_code 132 = .ok (.if_icmp .lt 53, 3) := by decide +kernel
theorem d4_135 : decode prog_212_method_12_code 135 = .ok (.iload 5, 2) := by decide +kernel
theorem d4_137 : decode prog_212_method_12_code 137 = .ok (.sipush 244, 3) := by decide +kernel
theorem d4_140 : decode prog_212_method_12_code 140 = .ok (.if_icmp .gt 45, 3) := by decide +kernel
theorem d4_143 : decode prog_212_method_12_code 143 = .ok (.iconst 3, 1) := by decide +kernel
theorem d4_144 : decode prog_212_method_12_code 144 = .ok (.istore 6, 2) := by decide +kernel
theorem d4_146 : decode prog_212_method_12_code 146 = .ok (.iload 5, 2) := by decide +kernel
theorem d4_148 : decode prog_212_method_12_code 148 = .ok (.sipush 240, 3) := by decide +kernel
theorem d4_151 : decode prog_212_method_12_code 151 = .ok (.if_icmp .ne 9, 3) := by decide +kernel
theorem d4_154 : decode prog_212_method_12_code 154 = .ok (.sipush 144, 3) := by decide +kernel
theorem d4_157 : decode prog_212_method_12_code 157 = .ok (.goto 5, 3) := by decide +kernel
theorem d4_160 : decode prog_212_method_12_code 160 = .ok (.iload 7, 2) := by decide +kernel
theorem d4_162 : decode prog_212_method_12_code 162 = .ok (.istore 7, 2) := by decide +kernel
theorem d4_164 : decode prog_212_method_12_code 164 = .ok (.iload 5, 2) := by decide +kernel
theorem d4_166 : decode prog_212_method_12_code 166 = .ok (.sipush 244, 3) := by decide +kernel
theorem d4_169 : decode prog_212_method_12_code 169 = .ok (.if_icmp .ne 9, 3) := by decide +kernel
theorem d4_172 : decode prog_212_method_12_code 172 = .ok (.sipush 143, 3) := by decide +kernel
theorem d4_175 : decode prog_212_method_12_code 175 = .ok (.goto 5, 3) := by decide +kernel
theorem d4_178 : decode prog_212_method_12_code 178 = .ok (.iload 8, 2) := by decide +kernel
theorem d4_180 : decode prog_212_method_12_code 180 = .ok (.istore 8, 2) := by decide +kernel
theorem d4_182 : decode prog_212_method_12_code 182 = .ok (.goto 5, 3) := by decide +kernel
theorem d4_185 : decode prog_212_method_12_code 185 = .ok (.iconst 0, 1) := by decide +kernel
theorem d4_186 : decode prog_212_method_12_code 186 = .ok (.ireturn, 1) := by decide +kernel
theorem d4_187 : decode prog_212_method_12_code 187 = .ok (.iload_n 3, 1) := by decide +kernel
theorem d4_188 : decode prog_212_method_12_code 188 = .ok (.iload 4, 2) := by decide +kernel
theorem d4_190 : decode prog_212_method_12_code 190 = .ok (.isub, 1) := by decide +kernel
theorem d4_191 : decode prog_212_method_12_code 191 = .ok (.iload 6, 2) := by decide +kernel
theorem d4_193 : decode prog_212_method_12_code 193 = .ok (.if_icmp .gt 5, 3) := by decide +kernel
theorem d4_196 : decode prog_212_method_12_code 196 = .ok (.iconst 0, 1) := by decide +kernel
theorem d4_197 : decode prog_212_method_12_code 197 = .ok (.ireturn, 1) := by decide +kernel
theorem d4_198 : decode prog_212_method_12_code 198 = .ok (.aload_n 0, 1) := by decide +kernel
theorem d4_199 : decode prog_212_method_12_code 199 = .ok (.iload 4, 2) := by decide +kernel
theorem d4_201 : decode prog_212_method_12_code 201 = .ok (.iconst 1, 1) := by decide +kernel
theorem d4_202 : decode prog_212_method_12_code 202 = .ok (.iadd, 1) := by decide +kernel
theorem d4_203 : decode prog_212_method_12_code 203 = .ok (.baload, 1) := by decide +kernel
theorem d4_204 : decode prog_212_method_12_code 204 = .ok (.sipush 255, 3) := by decide +kernel
theorem d4_207 : decode prog_212_method_12_code 207 = .ok (.iand, 1) := by decide +kernel
theorem d4_208 : decode prog_212_method_12_code 208 = .ok (.istore 9, 2) := by decide +kernel
theorem d4_210 : decode prog_212_method_12_code 210 = .ok (.iload 9, 2) := by decide +kernel
theorem d4_212 : decode prog_212_method_12_code 212 = .ok (.iload 7, 2) := by decide +kernel
theorem d4_214 : decode prog_212_method_12_code 214 = .ok (.if_icmp .lt 10, 3) := by decide +kernel
theorem d4_217 : decode prog_212_method_12_code 217 = .ok (.iload 9, 2) := by decide +kernel
theorem d4_219 : decode prog_212_method_12_code 219 = .ok (.iload 8, 2) := by decide +kernel
theorem d4_221 : decode prog_212_method_12_code 221 = .ok (.if_icmp .le 5, 3) := by decide +kernel
theorem d4_224 : decode prog_212_method_12_code 224 = .ok (.iconst 0, 1) := by decide +kernel
theorem d4_225 : decode prog_212_method_12_code 225 = .ok (.ireturn, 1) := by decide +kernel
theorem d4_226 : decode prog_212_method_12_code 226 = .ok (.iconst 2, 1) := by decide +kernel
theorem d4_227 : decode prog_212_method_12_code 227 = .ok (.istore 10, 2) := by decide +kernel
theorem d4_229 : decode prog_212_method_12_code 229 = .ok (.iload 10, 2) := by decide +kernel
theorem d4_231 : decode prog_212_method_12_code 231 = .ok (.iload 6, 2) := by decide +kernel
theorem d4_233 : decode prog_212_method_12_code 233 = .ok (.if_icmp .gt 28, 3) := by decide +kernel
theorem d4_236 : decode prog_212_method_12_code 236 = .ok (.aload_n 0, 1) := by decide +kernel
theorem d4_237 : decode prog_212_method_12_code 237 = .ok (.iload 4, 2) := by decide +kernel
theorem d4_239 : decode prog_212_method_12_code 239 = .ok (.iload 10, 2) := by decide +kernel
theorem d4_241 : decode prog_212_method_12_code 241 = .ok (.iadd, 1) := by decide +kernel
theorem d4_242 : decode prog_212_method_12_code 242 = .ok (.baload, 1) := by decide +kernel
theorem d4_243 : decode prog_212_method_12_code 243 = .ok (.sipush 192, 3) := by decide +kernel
theorem d4_246 : decode prog_212_method_12_code 246 = .ok (.iand, 1) := by decide +kernel
theorem d4_247 : decode prog_212_method_12_code 247 = .ok (.sipush 128, 3) := by decide +kernel
theorem d4_250 : decode prog_212_method_12_code 250 = .ok (.if_icmp .eq 5, 3) := by decide +kernel
theorem d4_253 : decode prog_212_method_12_code 253 = .ok (.iconst 0, 1) := by decide +kernel
theorem d4_254 : decode prog_212_method_12_code 254 = .ok (.ireturn, 1) := by decide +kernel
theorem d4_255 : decode prog_212_method_12_code 255 = .ok (.iinc 10 1, 3) := by decide +kernel
theorem d4_258 : decode prog_212_method_12_code 258 = .ok (.goto (-29), 3) := by decide +kernel
theorem d4_261 : decode prog_212_method_12_code 261 = .ok (.iload 4, 2) := by decide +kernel
theorem d4_263 : decode prog_212_method_12_code 263 = .ok (.iconst 1, 1) := by decide +kernel
theorem d4_264 : decode prog_212_method_12_code 264 = .ok (.iload 6, 2) := by decide +kernel
theorem d4_266 : decode prog_212_method_12_code 266 = .ok (.iadd, 1) := by decide +kernel
theorem d4_267 : decode prog_212_method_12_code 267 = .ok (.iadd, 1) := by decide +kernel
theorem d4_268 : decode prog_212_method_12_code 268 = .ok (.istore 4, 2) := by decide +kernel
theorem d4_270 : decode prog_212_method_12_code 270 = .ok (.goto (-263), 3) := by decide +kernel
theorem d4_273 : decode prog_212_method_12_code 273 = .ok (.iconst 1, 1) := by decide +kernel
theorem d4_274 : decode prog_212_method_12_code 274 = .ok (.ireturn, 1) := by decide +kernel
theorem pn_4 : plainName "com/example/fieldbook/fieldbook/StrictText" = true := by first | (simp [plainName, overriddenIn]; done) | decide +kernel
theorem ef_4 (m : MethodId) (x0 : Addr) (x1 : Int32) (x2 : Int32) : entryFrame m #[(.ref x0), (.int x1), (.int x2)] 11 = mkF m 0 #[.val (.ref x0), .val (.int x1), .val (.int x2), .unset, .unset, .unset, .unset, .unset, .unset, .unset, .unset] [] := by first | (simp [entryFrame, mkF, argsToLocals, Value.category]; done) | rfl
def Q4 (b1 : Addr) (cl_b1 : Cell) (f_b1 : Nat → Int32) (z_b1 : Int32) (u1 : Int32) (u2 : Int32) (h0 : Heap) (n0 : Nat) (v : Option Value) (h : Heap) (L : List Loc) : Prop := v = some (.int (own_u8_0 f_b1 u1 u2)) ∧ Fr n0 L ∧ h = h0
set_option maxRecDepth 65536 in
set_option maxHeartbeats 40000000 in
theorem rm4 (l : Launch) (Z : State) (a0 : Array Value) (hw : ∀ d ∈ tables_1, d.before a0 Z = true) (ws : List Jvm.Cond) (b1 : Addr) (cl_b1 : Cell) (f_b1 : Nat → Int32) (z_b1 : Int32) (u1 : Int32) (u2 : Int32) (h0 : Heap) (n0 : Nat) (Z0 : n0 ≤ h0.size) (Ar_b1 : Arr Z h0 b1 cl_b1 .byte) (S_b1 : cl_b1.slots.size = z_b1.toNatClampNeg) (M_b1 : ¬ z_b1 < 0) (H_b1 : ∀ i, i < z_b1.toNatClampNeg → cl_b1.slots[i]? = some (.int (f_b1 i))) (g1 : 0 ≤ u1.toInt) (g2 : u1.toInt ≤ (u1 + u2).toInt) (g3 : (u1 + u2).toInt ≤ z_b1.toInt) :
    MetFree l (⟨"com/example/fieldbook/fieldbook/StrictText", "isUtf8", "([BII)Z"⟩ : MethodName) (head1 (Jvm.Cond.code (⟨"com/example/fieldbook/fieldbook/StrictText", "isUtf8", "([BII)Z"⟩ : MethodName) prog_212_method_12_code 11 (some .boolean) :: ws) ({ frames := 0, cells := 0, slots := 0, locals := 0 } : Room)) (fun a U => a = #[(.ref b1), (.int u1), (.int u2)] ∧ Z.Warmed39 U.vm ∧ U.heap = h0) (fun _ _ _ _ _ => True) (fun _ U o U' => ∃ v L, o = .returned v ∧ Q4 b1 cl_b1 f_b1 z_b1 u1 u2 h0 n0 v U'.heap L ∧ FrameEnd U o U' L ({ frames := 0, cells := 0, slots := 0, locals := 0 } : Room).cells ({ frames := 0, cells := 0, slots := 0, locals := 0 } : Room).slots) := by
  refine MetFree.of_bodySF (plainFor_of_name pn_4) hisR ?_
  intro p e s m args below meth c s₁ Bd hml0 hP hK
  obtain ⟨rfl, hZ, hh⟩ := hP
  have hx := Bd.exec
  have hby := Bd.bytes
  have hml : c.maxLocals = 11 := hml0
  have hown : s.vm.findClass "com/example/fieldbook/fieldbook/StrictText" = some m.cls := findClass_of_methodNamed Bd.named
  have hnm := (name_of_methodNamed Bd.named Bd.method).1
  have X0 : Stand p l e ({ frames := 0, cells := 0, slots := 0, locals := 0 } : Room) s m #[(.ref b1), (.int u1), (.int u2)] below meth c s₁ [] 0 0 := Stand.of_body Bd
  have e0 : s₁.heap = h0 := by rw [← hh, Bd.state]; rfl
  have N0 := Fr.nil n0
  show own_Go p e below s (Q4 b1 cl_b1 f_b1 z_b1 u1 u2 h0 n0) ({ frames := 0, cells := 0, slots := 0, locals := 0 } : Room).cells ({ frames := 0, cells := 0, slots := 0, locals := 0 } : Room).slots (s₁.setTop (entryFrame m #[(.ref b1), (.int u1), (.int u2)] 11))
  refine own_go (b := s₁.setTop (mkF m 0 #[.val (.ref b1), .val (.int u1), .val (.int u2), .unset, .unset, .unset, .unset, .unset, .unset, .unset, .unset] [])) (fun t k => castTop (ef_4 m b1 u1 u2) k) ?_
  refine own_go (b := s₁.setTop (mkF m 4 #[.val (.ref b1), .val (.int u1), .val (.int u2), .val (.int (u1 + u2)), .unset, .unset, .unset, .unset, .unset, .unset, .unset] [])) (fun t k => ?_) ?_
  · show Steps p.tables e below (s₁.setTop (mkF m 0 #[.val (.ref b1), .val (.int u1), .val (.int u2), .unset, .unset, .unset, .unset, .unset, .unset, .unset, .unset] [])) _
    refine XS.iloadN X0.here hx rfl (hb hby d4_0) rfl ?_
    show Steps p.tables e below (s₁.setTop (mkF m 1 #[.val (.ref b1), .val (.int u1), .val (.int u2), .unset, .unset, .unset, .unset, .unset, .unset, .unset, .unset] [(.int u1)])) _
    refine XS.iloadN X0.here hx rfl (hb hby d4_1) rfl ?_
    show Steps p.tables e below (s₁.setTop (mkF m 2 #[.val (.ref b1), .val (.int u1), .val (.int u2), .unset, .unset, .unset, .unset, .unset, .unset, .unset, .unset] [(.int u2), (.int u1)])) _
    refine XS.iadd X0.here hx rfl (hb hby d4_2) rfl ?_
    show Steps p.tables e below (s₁.setTop (mkF m 3 #[.val (.ref b1), .val (.int u1), .val (.int u2), .unset, .unset, .unset, .unset, .unset, .unset, .unset, .unset] [(.int (u1 + u2))])) _
    refine XS.istoreN X0.here hx rfl (hb hby d4_3) rfl (l' := #[.val (.ref b1), .val (.int u1), .val (.int u2), .val (.int (u1 + u2)), .unset, .unset, .unset, .unset, .unset, .unset, .unset]) rfl ?_
    show Steps p.tables e below (s₁.setTop (mkF m 4 #[.val (.ref b1), .val (.int u1), .val (.int u2), .val (.int (u1 + u2)), .unset, .unset, .unset, .unset, .unset, .unset, .unset] [])) _
    exact k
  obtain ⟨en, hen⟩ : ∃ z : Int32, z = (u1 + u2) := ⟨_, rfl⟩
  rw [← hen]
  have j2 : en.toInt ≤ z_b1.toInt := by rw [hen]; exact g3
  have J7 : ∀ (k : Nat) (T : State) (lc : List Loc), Stand p l e ({ frames := 0, cells := 0, slots := 0, locals := 0 } : Room) s m #[(.ref b1), (.int u1), (.int u2)] below meth c T lc 0 0 → Fr n0 lc → T.heap = h0 → ∀ (i : Int32) (sl5 sl6 sl7 sl8 sl9 sl10 : Slot), One sl5 → One sl6 → One sl7 → One sl8 → One sl9 → One sl10 → 0 ≤ i.toInt → en.toInt - i.toInt ≤ k → own_u8_0 f_b1 u1 u2 = own_u8A f_b1 en k i → own_Go p e below s (Q4 b1 cl_b1 f_b1 z_b1 u1 u2 h0 n0) ({ frames := 0, cells := 0, slots := 0, locals := 0 } : Room).cells ({ frames := 0, cells := 0, slots := 0, locals := 0 } : Room).slots (T.setTop (mkF m 7 #[.val (.ref b1), .val (.int u1), .val (.int u2), .val (.int en), .val (.int i), sl5, sl6, sl7, sl8, sl9, sl10] [])) := by
    intro k
    induction k with
    | zero =>
      intro T lc X N eT i sl5 sl6 sl7 sl8 sl9 sl10 o5 o6 o7 o8 o9 o10 j1 j3 hu
      have hc10_1 : ¬ (i < en) := by rw [Int32.lt_iff_toInt_lt]; omega
      refine own_end X Bd.notSynchronized (v := some (.int (1 : Int32))) (fun h => by rw [Bd.returns] at h; cases h) (fun fs hr => ?_) eT ?_ (by decide) (by decide)
      · show Steps p.tables e below (T.setTop (mkF m 7 #[.val (.ref b1), .val (.int u1), .val (.int u2), .val (.int en), .val (.int i), sl5, sl6, sl7, sl8, sl9, sl10] [])) _
        refine XS.iload X.here hx rfl (hb hby d4_7) rfl ?_
        show Steps p.tables e below (T.setTop (mkF m 9 #[.val (.ref b1), .val (.int u1), .val (.int u2), .val (.int en), .val (.int i), sl5, sl6, sl7, sl8, sl9, sl10] [(.int i)])) _
        refine XS.iloadN X.here hx rfl (hb hby d4_9) rfl ?_
        show Steps p.tables e below (T.setTop (mkF m 10 #[.val (.ref b1), .val (.int u1), .val (.int u2), .val (.int en), .val (.int i), sl5, sl6, sl7, sl8, sl9, sl10] [(.int en), (.int i)])) _
        refine XS.icmpYes X.here hx rfl (pc0 := 10) (pc' := 273) rfl (hb hby d4_10) rfl (flt hc10_1).2.1 (by decide) (by decide) ?_
        show Steps p.tables e below (T.setTop (mkF m 273 #[.val (.ref b1), .val (.int u1), .val (.int u2), .val (.int en), .val (.int i), sl5, sl6, sl7, sl8, sl9, sl10] [])) _
        refine XS.iconst X.here hx rfl (hb hby d4_273) ?_
        show Steps p.tables e below (T.setTop (mkF m 274 #[.val (.ref b1), .val (.int u1), .val (.int u2), .val (.int en), .val (.int i), sl5, sl6, sl7, sl8, sl9, sl10] [(.int (1 : Int32))])) _
        exact retN X hx (t := .boolean) Bd.returns (by simp) (hb hby d4_274) hr
      · exact ⟨by rw [hu, own_u8A], N, rfl⟩
    | succ k ih =>
      intro T lc X N eT i sl5 sl6 sl7 sl8 sl9 sl10 o5 o6 o7 o8 o9 o10 j1 j3 hu
      refine own_go (b := T.setTop (mkF m 10 #[.val (.ref b1), .val (.int u1), .val (.int u2), .val (.int en), .val (.int i), sl5, sl6, sl7, sl8, sl9, sl10] [(.int en), (.int i)])) (fun t k => ?_) ?_
      · show Steps p.tables e below (T.setTop (mkF m 7 #[.val (.ref b1), .val (.int u1), .val (.int u2), .val (.int en), .val (.int i), sl5, sl6, sl7, sl8, sl9, sl10] [])) _
        refine XS.iload X.here hx rfl (hb hby d4_7) rfl ?_
        show Steps p.tables e below (T.setTop (mkF m 9 #[.val (.ref b1), .val (.int u1), .val (.int u2), .val (.int en), .val (.int i), sl5, sl6, sl7, sl8, sl9, sl10] [(.int i)])) _
        refine XS.iloadN X.here hx rfl (hb hby d4_9) rfl ?_
        show Steps p.tables e below (T.setTop (mkF m 10 #[.val (.ref b1), .val (.int u1), .val (.int u2), .val (.int en), .val (.int i), sl5, sl6, sl7, sl8, sl9, sl10] [(.int en), (.int i)])) _
        exact k
      by_cases hc10 : i < en
      · refine own_go (b := T.setTop (mkF m 13 #[.val (.ref b1), .val (.int u1), .val (.int u2), .val (.int en), .val (.int i), sl5, sl6, sl7, sl8, sl9, sl10] [])) (fun t k => ?_) ?_
        · show Steps p.tables e below (T.setTop (mkF m 10 #[.val (.ref b1), .val (.int u1), .val (.int u2), .val (.int en), .val (.int i), sl5, sl6, sl7, sl8, sl9, sl10] [(.int en), (.int i)])) _
          refine XS.icmpNo X.here hx rfl (hb hby d4_10) rfl (tlt hc10).2.1 ?_
          show Steps p.tables e below (T.setTop (mkF m 13 #[.val (.ref b1), .val (.int u1), .val (.int u2), .val (.int en), .val (.int i), sl5, sl6, sl7, sl8, sl9, sl10] [])) _
          exact k
        have J226_3 : ∀ (T : State) (lc : List Loc), Stand p l e ({ frames := 0, cells := 0, slots := 0, locals := 0 } : Room) s m #[(.ref b1), (.int u1), (.int u2)] below meth c T lc 0 0 → Fr n0 lc → T.heap = h0 → ∀ (j226_3_5 : Int32) (j226_3_7 : Int32) (j226_3_8 : Int32) (j226_3_9 : Int32), (3 : Int32) < (en - i) → own_ch_0 f_b1 en i = own_ch_226_3 f_b1 en i j226_3_5 j226_3_7 j226_3_8 j226_3_9 → own_Go p e below s (Q4 b1 cl_b1 f_b1 z_b1 u1 u2 h0 n0) ({ frames := 0, cells := 0, slots := 0, locals := 0 } : Room).cells ({ frames := 0, cells := 0, slots := 0, locals := 0 } : Room).slots (T.setTop (mkF m 226 #[.val (.ref b1), .val (.int u1), .val (.int u2), .val (.int en), .val (.int i), .val (.int j226_3_5), .val (.int (3 : Int32)), .val (.int j226_3_7), .val (.int j226_3_8), .val (.int j226_3_9), sl10] [])) := by
          intro T lc X N eT j226_3_5 j226_3_7 j226_3_8 j226_3_9  hc193 hv
          have hc233_2 : ¬ ((3 : Int32) < (2 : Int32)) := (by decide)
          have hi3 : ¬ (i + (2 : Int32)) < 0 ∧ (i + (2 : Int32)).toNatClampNeg < z_b1.toNatClampNeg := own_ixn j1 hc10 j2 hc193 (by decide)
          refine own_go (b := T.setTop (mkF m 250 #[.val (.ref b1), .val (.int u1), .val (.int u2), .val (.int en), .val (.int i), .val (.int j226_3_5), .val (.int (3 : Int32)), .val (.int j226_3_7), .val (.int j226_3_8), .val (.int j226_3_9), .val (.int (2 : Int32))] [(.int (128 : Int32)), (.int ((f_b1 (i + (2 : Int32)).toNatClampNeg) &&& (192 : Int32)))])) (fun t k => ?_) ?_
          · show Steps p.tables e below (T.setTop (mkF m 226 #[.val (.ref b1), .val (.int u1), .val (.int u2), .val (.int en), .val (.int i), .val (.int j226_3_5), .val (.int (3 : Int32)), .val (.int j226_3_7), .val (.int j226_3_8), .val (.int j226_3_9), sl10] [])) _
            refine XS.iconst X.here hx rfl (hb hby d4_226) ?_
            show Steps p.tables e below (T.setTop (mkF m 227 #[.val (.ref b1), .val (.int u1), .val (.int u2), .val (.int en), .val (.int i), .val (.int j226_3_5), .val (.int (3 : Int32)), .val (.int j226_3_7), .val (.int j226_3_8), .val (.int j226_3_9), sl10] [(.int (2 : Int32))])) _
            refine XS.istoreS X.here hx rfl (hb hby d4_227) rfl rfl o10 ?_
            show Steps p.tables e below (T.setTop (mkF m 229 #[.val (.ref b1), .val (.int u1), .val (.int u2), .val (.int en), .val (.int i), .val (.int j226_3_5), .val (.int (3 : Int32)), .val (.int j226_3_7), .val (.int j226_3_8), .val (.int j226_3_9), .val (.int (2 : Int32))] [])) _
            refine XS.iload X.here hx rfl (hb hby d4_229) rfl ?_
            show Steps p.tables e below (T.setTop (mkF m 231 #[.val (.ref b1), .val (.int u1), .val (.int u2), .val (.int en), .val (.int i), .val (.int j226_3_5), .val (.int (3 : Int32)), .val (.int j226_3_7), .val (.int j226_3_8), .val (.int j226_3_9), .val (.int (2 : Int32))] [(.int (2 : Int32))])) _
            refine XS.iload X.here hx rfl (hb hby d4_231) rfl ?_
            show Steps p.tables e below (T.setTop (mkF m 233 #[.val (.ref b1), .val (.int u1), .val (.int u2), .val (.int en), .val (.int i), .val (.int j226_3_5), .val (.int (3 : Int32)), .val (.int j226_3_7), .val (.int j226_3_8), .val (.int j226_3_9), .val (.int (2 : Int32))] [(.int (3 : Int32)), (.int (2 : Int32))])) _
            refine XS.icmpNo X.here hx rfl (hb hby d4_233) rfl (flt hc233_2).2.2.1 ?_
            show Steps p.tables e below (T.setTop (mkF m 236 #[.val (.ref b1), .val (.int u1), .val (.int u2), .val (.int en), .val (.int i), .val (.int j226_3_5), .val (.int (3 : Int32)), .val (.int j226_3_7), .val (.int j226_3_8), .val (.int j226_3_9), .val (.int (2 : Int32))] [])) _
            refine XS.aloadN X.here hx rfl (hb hby d4_236) rfl rfl ?_
            show Steps p.tables e below (T.setTop (mkF m 237 #[.val (.ref b1), .val (.int u1), .val (.int u2), .val (.int en), .val (.int i), .val (.int j226_3_5), .val (.int (3 : Int32)), .val (.int j226_3_7), .val (.int j226_3_8), .val (.int j226_3_9), .val (.int (2 : Int32))] [(.ref b1)])) _
            refine XS.iload X.here hx rfl (hb hby d4_237) rfl ?_
            show Steps p.tables e below (T.setTop (mkF m 239 #[.val (.ref b1), .val (.int u1), .val (.int u2), .val (.int en), .val (.int i), .val (.int j226_3_5), .val (.int (3 : Int32)), .val (.int j226_3_7), .val (.int j226_3_8), .val (.int j226_3_9), .val (.int (2 : Int32))] [(.int i), (.ref b1)])) _
            refine XS.iload X.here hx rfl (hb hby d4_239) rfl ?_
            show Steps p.tables e below (T.setTop (mkF m 241 #[.val (.ref b1), .val (.int u1), .val (.int u2), .val (.int en), .val (.int i), .val (.int j226_3_5), .val (.int (3 : Int32)), .val (.int j226_3_7), .val (.int j226_3_8), .val (.int j226_3_9), .val (.int (2 : Int32))] [(.int (2 : Int32)), (.int i), (.ref b1)])) _
            refine XS.iadd X.here hx rfl (hb hby d4_241) rfl ?_
            show Steps p.tables e below (T.setTop (mkF m 242 #[.val (.ref b1), .val (.int u1), .val (.int u2), .val (.int en), .val (.int i), .val (.int j226_3_5), .val (.int (3 : Int32)), .val (.int j226_3_7), .val (.int j226_3_8), .val (.int j226_3_9), .val (.int (2 : Int32))] [(.int (i + (2 : Int32))), (.ref b1)])) _
            refine X.baloadBytes hx (j := (i + (2 : Int32))) (v := (.int (f_b1 (i + (2 : Int32)).toNatClampNeg))) (by rw [eT]; exact Ar_b1.1) (State.isArrayOf_alike hZ.alike Ar_b1.2.1) Ar_b1.2.2 (own_hin S_b1 hi3) (H_b1 _ hi3.2) (g := (mkF m 242 #[.val (.ref b1), .val (.int u1), .val (.int u2), .val (.int en), .val (.int i), .val (.int j226_3_5), .val (.int (3 : Int32)), .val (.int j226_3_7), .val (.int j226_3_8), .val (.int j226_3_9), .val (.int (2 : Int32))] [(.int (i + (2 : Int32))), (.ref b1)])) rfl rfl (hb hby d4_242) _ ?_
            show Steps p.tables e below (T.setTop (mkF m 243 #[.val (.ref b1), .val (.int u1), .val (.int u2), .val (.int en), .val (.int i), .val (.int j226_3_5), .val (.int (3 : Int32)), .val (.int j226_3_7), .val (.int j226_3_8), .val (.int j226_3_9), .val (.int (2 : Int32))] [(.int (f_b1 (i + (2 : Int32)).toNatClampNeg))])) _
            refine XS.sipush X.here hx rfl (hb hby d4_243) ?_
            show Steps p.tables e below (T.setTop (mkF m 246 #[.val (.ref b1), .val (.int u1), .val (.int u2), .val (.int en), .val (.int i), .val (.int j226_3_5), .val (.int (3 : Int32)), .val (.int j226_3_7), .val (.int j226_3_8), .val (.int j226_3_9), .val (.int (2 : Int32))] [(.int (192 : Int32)), (.int (f_b1 (i + (2 : Int32)).toNatClampNeg))])) _
            refine XS.iand X.here hx rfl (hb hby d4_246) rfl ?_
            show Steps p.tables e below (T.setTop (mkF m 247 #[.val (.ref b1), .val (.int u1), .val (.int u2), .val (.int en), .val (.int i), .val (.int j226_3_5), .val (.int (3 : Int32)), .val (.int j226_3_7), .val (.int j226_3_8), .val (.int j226_3_9), .val (.int (2 : Int32))] [(.int ((f_b1 (i + (2 : Int32)).toNatClampNeg) &&& (192 : Int32)))])) _
            refine XS.sipush X.here hx rfl (hb hby d4_247) ?_
            show Steps p.tables e below (T.setTop (mkF m 250 #[.val (.ref b1), .val (.int u1), .val (.int u2), .val (.int en), .val (.int i), .val (.int j226_3_5), .val (.int (3 : Int32)), .val (.int j226_3_7), .val (.int j226_3_8), .val (.int j226_3_9), .val (.int (2 : Int32))] [(.int (128 : Int32)), (.int ((f_b1 (i + (2 : Int32)).toNatClampNeg) &&& (192 : Int32)))])) _
            exact k
          by_cases hc250 : ((f_b1 (i + (2 : Int32)).toNatClampNeg) &&& (192 : Int32)) = (128 : Int32)
          · have hc233_4 : ¬ ((3 : Int32) < (3 : Int32)) := (by decide)
            have hi5 : ¬ (i + (3 : Int32)) < 0 ∧ (i + (3 : Int32)).toNatClampNeg < z_b1.toNatClampNeg := own_ixn j1 hc10 j2 hc193 (by decide)
            refine own_go (b := T.setTop (mkF m 250 #[.val (.ref b1), .val (.int u1), .val (.int u2), .val (.int en), .val (.int i), .val (.int j226_3_5), .val (.int (3 : Int32)), .val (.int j226_3_7), .val (.int j226_3_8), .val (.int j226_3_9), .val (.int (3 : Int32))] [(.int (128 : Int32)), (.int ((f_b1 (i + (3 : Int32)).toNatClampNeg) &&& (192 : Int32)))])) (fun t k => ?_) ?_
            · show Steps p.tables e below (T.setTop (mkF m 250 #[.val (.ref b1), .val (.int u1), .val (.int u2), .val (.int en), .val (.int i), .val (.int j226_3_5), .val (.int (3 : Int32)), .val (.int j226_3_7), .val (.int j226_3_8), .val (.int j226_3_9), .val (.int (2 : Int32))] [(.int (128 : Int32)), (.int ((f_b1 (i + (2 : Int32)).toNatClampNeg) &&& (192 : Int32)))])) _
              refine XS.icmpYes X.here hx rfl (pc0 := 250) (pc' := 255) rfl (hb hby d4_250) rfl (teq hc250).1 (by decide) (by decide) ?_
              show Steps p.tables e below (T.setTop (mkF m 255 #[.val (.ref b1), .val (.int u1), .val (.int u2), .val (.int en), .val (.int i), .val (.int j226_3_5), .val (.int (3 : Int32)), .val (.int j226_3_7), .val (.int j226_3_8), .val (.int j226_3_9), .val (.int (2 : Int32))] [])) _
              refine XS.iinc X.here hx rfl (hb hby d4_255) rfl (l' := #[.val (.ref b1), .val (.int u1), .val (.int u2), .val (.int en), .val (.int i), .val (.int j226_3_5), .val (.int (3 : Int32)), .val (.int j226_3_7), .val (.int j226_3_8), .val (.int j226_3_9), .val (.int (3 : Int32))]) rfl ?_
              show Steps p.tables e below (T.setTop (mkF m 258 #[.val (.ref b1), .val (.int u1), .val (.int u2), .val (.int en), .val (.int i), .val (.int j226_3_5), .val (.int (3 : Int32)), .val (.int j226_3_7), .val (.int j226_3_8), .val (.int j226_3_9), .val (.int (3 : Int32))] [])) _
              refine XS.goto X.here hx rfl (pc0 := 258) (pc' := 229) rfl (hb hby d4_258) (by decide) (by decide) ?_
              show Steps p.tables e below (T.setTop (mkF m 229 #[.val (.ref b1), .val (.int u1), .val (.int u2), .val (.int en), .val (.int i), .val (.int j226_3_5), .val (.int (3 : Int32)), .val (.int j226_3_7), .val (.int j226_3_8), .val (.int j226_3_9), .val (.int (3 : Int32))] [])) _
              refine XS.iload X.here hx rfl (hb hby d4_229) rfl ?_
              show Steps p.tables e below (T.setTop (mkF m 231 #[.val (.ref b1), .val (.int u1), .val (.int u2), .val (.int en), .val (.int i), .val (.int j226_3_5), .val (.int (3 : Int32)), .val (.int j226_3_7), .val (.int j226_3_8), .val (.int j226_3_9), .val (.int (3 : Int32))] [(.int (3 : Int32))])) _
              refine XS.iload X.here hx rfl (hb hby d4_231) rfl ?_
              show Steps p.tables e below (T.setTop (mkF m 233 #[.val (.ref b1), .val (.int u1), .val (.int u2), .val (.int en), .val (.int i), .val (.int j226_3_5), .val (.int (3 : Int32)), .val (.int j226_3_7), .val (.int j226_3_8), .val (.int j226_3_9), .val (.int (3 : Int32))] [(.int (3 : Int32)), (.int (3 : Int32))])) _
              refine XS.icmpNo X.here hx rfl (hb hby d4_233) rfl (flt hc233_4).2.2.1 ?_
              show Steps p.tables e below (T.setTop (mkF m 236 #[.val (.ref b1), .val (.int u1), .val (.int u2), .val (.int en), .val (.int i), .val (.int j226_3_5), .val (.int (3 : Int32)), .val (.int j226_3_7), .val (.int j226_3_8), .val (.int j226_3_9), .val (.int (3 : Int32))] [])) _
              refine XS.aloadN X.here hx rfl (hb hby d4_236) rfl rfl ?_
              show Steps p.tables e below (T.setTop (mkF m 237 #[.val (.ref b1), .val (.int u1), .val (.int u2), .val (.int en), .val (.int i), .val (.int j226_3_5), .val (.int (3 : Int32)), .val (.int j226_3_7), .val (.int j226_3_8), .val (.int j226_3_9), .val (.int (3 : Int32))] [(.ref b1)])) _
              refine XS.iload X.here hx rfl (hb hby d4_237) rfl ?_
              show Steps p.tables e below (T.setTop (mkF m 239 #[.val (.ref b1), .val (.int u1), .val (.int u2), .val (.int en), .val (.int i), .val (.int j226_3_5), .val (.int (3 : Int32)), .val (.int j226_3_7), .val (.int j226_3_8), .val (.int j226_3_9), .val (.int (3 : Int32))] [(.int i), (.ref b1)])) _
              refine XS.iload X.here hx rfl (hb hby d4_239) rfl ?_
              show Steps p.tables e below (T.setTop (mkF m 241 #[.val (.ref b1), .val (.int u1), .val (.int u2), .val (.int en), .val (.int i), .val (.int j226_3_5), .val (.int (3 : Int32)), .val (.int j226_3_7), .val (.int j226_3_8), .val (.int j226_3_9), .val (.int (3 : Int32))] [(.int (3 : Int32)), (.int i), (.ref b1)])) _
              refine XS.iadd X.here hx rfl (hb hby d4_241) rfl ?_
              show Steps p.tables e below (T.setTop (mkF m 242 #[.val (.ref b1), .val (.int u1), .val (.int u2), .val (.int en), .val (.int i), .val (.int j226_3_5), .val (.int (3 : Int32)), .val (.int j226_3_7), .val (.int j226_3_8), .val (.int j226_3_9), .val (.int (3 : Int32))] [(.int (i + (3 : Int32))), (.ref b1)])) _
              refine X.baloadBytes hx (j := (i + (3 : Int32))) (v := (.int (f_b1 (i + (3 : Int32)).toNatClampNeg))) (by rw [eT]; exact Ar_b1.1) (State.isArrayOf_alike hZ.alike Ar_b1.2.1) Ar_b1.2.2 (own_hin S_b1 hi5) (H_b1 _ hi5.2) (g := (mkF m 242 #[.val (.ref b1), .val (.int u1), .val (.int u2), .val (.int en), .val (.int i), .val (.int j226_3_5), .val (.int (3 : Int32)), .val (.int j226_3_7), .val (.int j226_3_8), .val (.int j226_3_9), .val (.int (3 : Int32))] [(.int (i + (3 : Int32))), (.ref b1)])) rfl rfl (hb hby d4_242) _ ?_
              show Steps p.tables e below (T.setTop (mkF m 243 #[.val (.ref b1), .val (.int u1), .val (.int u2), .val (.int en), .val (.int i), .val (.int j226_3_5), .val (.int (3 : Int32)), .val (.int j226_3_7), .val (.int j226_3_8), .val (.int j226_3_9), .val (.int (3 : Int32))] [(.int (f_b1 (i + (3 : Int32)).toNatClampNeg))])) _
              refine XS.sipush X.here hx rfl (hb hby d4_243) ?_
              show Steps p.tables e below (T.setTop (mkF m 246 #[.val (.ref b1), .val (.int u1), .val (.int u2), .val (.int en), .val (.int i), .val (.int j226_3_5), .val (.int (3 : Int32)), .val (.int j226_3_7), .val (.int j226_3_8), .val (.int j226_3_9), .val (.int (3 : Int32))] [(.int (192 : Int32)), (.int (f_b1 (i + (3 : Int32)).toNatClampNeg))])) _
              refine XS.iand X.here hx rfl (hb hby d4_246) rfl ?_
              show Steps p.tables e below (T.setTop (mkF m 247 #[.val (.ref b1), .val (.int u1), .val (.int u2), .val (.int en), .val (.int i), .val (.int j226_3_5), .val (.int (3 : Int32)), .val (.int j226_3_7), .val (.int j226_3_8), .val (.int j226_3_9), .val (.int (3 : Int32))] [(.int ((f_b1 (i + (3 : Int32)).toNatClampNeg) &&& (192 : Int32)))])) _
              refine XS.sipush X.here hx rfl (hb hby d4_247) ?_
              show Steps p.tables e below (T.setTop (mkF m 250 #[.val (.ref b1), .val (.int u1), .val (.int u2), .val (.int en), .val (.int i), .val (.int j226_3_5), .val (.int (3 : Int32)), .val (.int j226_3_7), .val (.int j226_3_8), .val (.int j226_3_9), .val (.int (3 : Int32))] [(.int (128 : Int32)), (.int ((f_b1 (i + (3 : Int32)).toNatClampNeg) &&& (192 : Int32)))])) _
              exact k
            by_cases hc250x : ((f_b1 (i + (3 : Int32)).toNatClampNeg) &&& (192 : Int32)) = (128 : Int32)
            · have hc233_6 : (3 : Int32) < (4 : Int32) := (by decide)
              refine own_go (b := T.setTop (mkF m 7 #[.val (.ref b1), .val (.int u1), .val (.int u2), .val (.int en), .val (.int (i + (4 : Int32))), .val (.int j226_3_5), .val (.int (3 : Int32)), .val (.int j226_3_7), .val (.int j226_3_8), .val (.int j226_3_9), .val (.int (4 : Int32))] [])) (fun t k => ?_) ?_
              · show Steps p.tables e below (T.setTop (mkF m 250 #[.val (.ref b1), .val (.int u1), .val (.int u2), .val (.int en), .val (.int i), .val (.int j226_3_5), .val (.int (3 : Int32)), .val (.int j226_3_7), .val (.int j226_3_8), .val (.int j226_3_9), .val (.int (3 : Int32))] [(.int (128 : Int32)), (.int ((f_b1 (i + (3 : Int32)).toNatClampNeg) &&& (192 : Int32)))])) _
                refine XS.icmpYes X.here hx rfl (pc0 := 250) (pc' := 255) rfl (hb hby d4_250) rfl (teq hc250x).1 (by decide) (by decide) ?_
                show Steps p.tables e below (T.setTop (mkF m 255 #[.val (.ref b1), .val (.int u1), .val (.int u2), .val (.int en), .val (.int i), .val (.int j226_3_5), .val (.int (3 : Int32)), .val (.int j226_3_7), .val (.int j226_3_8), .val (.int j226_3_9), .val (.int (3 : Int32))] [])) _
                refine XS.iinc X.here hx rfl (hb hby d4_255) rfl (l' := #[.val (.ref b1), .val (.int u1), .val (.int u2), .val (.int en), .val (.int i), .val (.int j226_3_5), .val (.int (3 : Int32)), .val (.int j226_3_7), .val (.int j226_3_8), .val (.int j226_3_9), .val (.int (4 : Int32))]) rfl ?_
                show Steps p.tables e below (T.setTop (mkF m 258 #[.val (.ref b1), .val (.int u1), .val (.int u2), .val (.int en), .val (.int i), .val (.int j226_3_5), .val (.int (3 : Int32)), .val (.int j226_3_7), .val (.int j226_3_8), .val (.int j226_3_9), .val (.int (4 : Int32))] [])) _
                refine XS.goto X.here hx rfl (pc0 := 258) (pc' := 229) rfl (hb hby d4_258) (by decide) (by decide) ?_
                show Steps p.tables e below (T.setTop (mkF m 229 #[.val (.ref b1), .val (.int u1), .val (.int u2), .val (.int en), .val (.int i), .val (.int j226_3_5), .val (.int (3 : Int32)), .val (.int j226_3_7), .val (.int j226_3_8), .val (.int j226_3_9), .val (.int (4 : Int32))] [])) _
                refine XS.iload X.here hx rfl (hb hby d4_229) rfl ?_
                show Steps p.tables e below (T.setTop (mkF m 231 #[.val (.ref b1), .val (.int u1), .val (.int u2), .val (.int en), .val (.int i), .val (.int j226_3_5), .val (.int (3 : Int32)), .val (.int j226_3_7), .val (.int j226_3_8), .val (.int j226_3_9), .val (.int (4 : Int32))] [(.int (4 : Int32))])) _
                refine XS.iload X.here hx rfl (hb hby d4_231) rfl ?_
                show Steps p.tables e below (T.setTop (mkF m 233 #[.val (.ref b1), .val (.int u1), .val (.int u2), .val (.int en), .val (.int i), .val (.int j226_3_5), .val (.int (3 : Int32)), .val (.int j226_3_7), .val (.int j226_3_8), .val (.int j226_3_9), .val (.int (4 : Int32))] [(.int (3 : Int32)), (.int (4 : Int32))])) _
                refine XS.icmpYes X.here hx rfl (pc0 := 233) (pc' := 261) rfl (hb hby d4_233) rfl (tlt hc233_6).2.2.1 (by decide) (by decide) ?_
                show Steps p.tables e below (T.setTop (mkF m 261 #[.val (.ref b1), .val (.int u1), .val (.int u2), .val (.int en), .val (.int i), .val (.int j226_3_5), .val (.int (3 : Int32)), .val (.int j226_3_7), .val (.int j226_3_8), .val (.int j226_3_9), .val (.int (4 : Int32))] [])) _
                refine XS.iload X.here hx rfl (hb hby d4_261) rfl ?_
                show Steps p.tables e below (T.setTop (mkF m 263 #[.val (.ref b1), .val (.int u1), .val (.int u2), .val (.int en), .val (.int i), .val (.int j226_3_5), .val (.int (3 : Int32)), .val (.int j226_3_7), .val (.int j226_3_8), .val (.int j226_3_9), .val (.int (4 : Int32))] [(.int i)])) _
                refine XS.iconst X.here hx rfl (hb hby d4_263) ?_
                show Steps p.tables e below (T.setTop (mkF m 264 #[.val (.ref b1), .val (.int u1), .val (.int u2), .val (.int en), .val (.int i), .val (.int j226_3_5), .val (.int (3 : Int32)), .val (.int j226_3_7), .val (.int j226_3_8), .val (.int j226_3_9), .val (.int (4 : Int32))] [(.int (1 : Int32)), (.int i)])) _
                refine XS.iload X.here hx rfl (hb hby d4_264) rfl ?_
                show Steps p.tables e below (T.setTop (mkF m 266 #[.val (.ref b1), .val (.int u1), .val (.int u2), .val (.int en), .val (.int i), .val (.int j226_3_5), .val (.int (3 : Int32)), .val (.int j226_3_7), .val (.int j226_3_8), .val (.int j226_3_9), .val (.int (4 : Int32))] [(.int (3 : Int32)), (.int (1 : Int32)), (.int i)])) _
                refine XS.iadd X.here hx rfl (hb hby d4_266) rfl ?_
                show Steps p.tables e below (T.setTop (mkF m 267 #[.val (.ref b1), .val (.int u1), .val (.int u2), .val (.int en), .val (.int i), .val (.int j226_3_5), .val (.int (3 : Int32)), .val (.int j226_3_7), .val (.int j226_3_8), .val (.int j226_3_9), .val (.int (4 : Int32))] [(.int (4 : Int32)), (.int i)])) _
                refine XS.iadd X.here hx rfl (hb hby d4_267) rfl ?_
                show Steps p.tables e below (T.setTop (mkF m 268 #[.val (.ref b1), .val (.int u1), .val (.int u2), .val (.int en), .val (.int i), .val (.int j226_3_5), .val (.int (3 : Int32)), .val (.int j226_3_7), .val (.int j226_3_8), .val (.int j226_3_9), .val (.int (4 : Int32))] [(.int (i + (4 : Int32)))])) _
                refine XS.istore X.here hx rfl (hb hby d4_268) rfl (l' := #[.val (.ref b1), .val (.int u1), .val (.int u2), .val (.int en), .val (.int (i + (4 : Int32))), .val (.int j226_3_5), .val (.int (3 : Int32)), .val (.int j226_3_7), .val (.int j226_3_8), .val (.int j226_3_9), .val (.int (4 : Int32))]) rfl ?_
                show Steps p.tables e below (T.setTop (mkF m 270 #[.val (.ref b1), .val (.int u1), .val (.int u2), .val (.int en), .val (.int (i + (4 : Int32))), .val (.int j226_3_5), .val (.int (3 : Int32)), .val (.int j226_3_7), .val (.int j226_3_8), .val (.int j226_3_9), .val (.int (4 : Int32))] [])) _
                refine XS.goto X.here hx rfl (pc0 := 270) (pc' := 7) rfl (hb hby d4_270) (by decide) (by decide) ?_
                show Steps p.tables e below (T.setTop (mkF m 7 #[.val (.ref b1), .val (.int u1), .val (.int u2), .val (.int en), .val (.int (i + (4 : Int32))), .val (.int j226_3_5), .val (.int (3 : Int32)), .val (.int j226_3_7), .val (.int j226_3_8), .val (.int j226_3_9), .val (.int (4 : Int32))] [])) _
                exact k
              have ad := own_an j1 hc10 hc193 (k := (4 : Int32)) (by decide)
              have ek : (4 : Int32).toInt = 4 := rfl
              have hch : own_ch_0 f_b1 en i = (4 : Int32) := by rw [hv, own_ch_226_3, if_pos hc250, if_pos hc250x]
              exact ih T _ X N eT _ _ _ _ _ _ _ (One.val rfl) (One.val rfl) (One.val rfl) (One.val rfl) (One.val rfl) (One.val rfl) (by rw [ad.1]; omega) (by rw [ad.1]; omega) (by rw [hu, own_u8A, if_pos hc10, if_neg (by rw [hch]; decide), hch])
            · refine own_end X Bd.notSynchronized (v := some (.int (0 : Int32))) (fun h => by rw [Bd.returns] at h; cases h) (fun fs hr => ?_) eT ?_ (by decide) (by decide)
              · show Steps p.tables e below (T.setTop (mkF m 250 #[.val (.ref b1), .val (.int u1), .val (.int u2), .val (.int en), .val (.int i), .val (.int j226_3_5), .val (.int (3 : Int32)), .val (.int j226_3_7), .val (.int j226_3_8), .val (.int j226_3_9), .val (.int (3 : Int32))] [(.int (128 : Int32)), (.int ((f_b1 (i + (3 : Int32)).toNatClampNeg) &&& (192 : Int32)))])) _
                refine XS.icmpNo X.here hx rfl (hb hby d4_250) rfl (feq hc250x).1 ?_
                show Steps p.tables e below (T.setTop (mkF m 253 #[.val (.ref b1), .val (.int u1), .val (.int u2), .val (.int en), .val (.int i), .val (.int j226_3_5), .val (.int (3 : Int32)), .val (.int j226_3_7), .val (.int j226_3_8), .val (.int j226_3_9), .val (.int (3 : Int32))] [])) _
                refine XS.iconst X.here hx rfl (hb hby d4_253) ?_
                show Steps p.tables e below (T.setTop (mkF m 254 #[.val (.ref b1), .val (.int u1), .val (.int u2), .val (.int en), .val (.int i), .val (.int j226_3_5), .val (.int (3 : Int32)), .val (.int j226_3_7), .val (.int j226_3_8), .val (.int j226_3_9), .val (.int (3 : Int32))] [(.int (0 : Int32))])) _
                exact retN X hx (t := .boolean) Bd.returns (by simp) (hb hby d4_254) hr
              · exact ⟨by rw [hu, own_u8A, if_pos hc10, if_pos (show own_ch_0 f_b1 en i = (0 : Int32) by rw [hv, own_ch_226_3, if_pos hc250, if_neg hc250x])], N, rfl⟩
          · refine own_end X Bd.notSynchronized (v := some (.int (0 : Int32))) (fun h => by rw [Bd.returns] at h; cases h) (fun fs hr => ?_) eT ?_ (by decide) (by decide)
            · show Steps p.tables e below (T.setTop (mkF m 250 #[.val (.ref b1), .val (.int u1), .val (.int u2), .val (.int en), .val (.int i), .val (.int j226_3_5), .val (.int (3 : Int32)), .val (.int j226_3_7), .val (.int j226_3_8), .val (.int j226_3_9), .val (.int (2 : Int32))] [(.int (128 : Int32)), (.int ((f_b1 (i + (2 : Int32)).toNatClampNeg) &&& (192 : Int32)))])) _
              refine XS.icmpNo X.here hx rfl (hb hby d4_250) rfl (feq hc250).1 ?_
              show Steps p.tables e below (T.setTop (mkF m 253 #[.val (.ref b1), .val (.int u1), .val (.int u2), .val (.int en), .val (.int i), .val (.int j226_3_5), .val (.int (3 : Int32)), .val (.int j226_3_7), .val (.int j226_3_8), .val (.int j226_3_9), .val (.int (2 : Int32))] [])) _
              refine XS.iconst X.here hx rfl (hb hby d4_253) ?_
              show Steps p.tables e below (T.setTop (mkF m 254 #[.val (.ref b1), .val (.int u1), .val (.int u2), .val (.int en), .val (.int i), .val (.int j226_3_5), .val (.int (3 : Int32)), .val (.int j226_3_7), .val (.int j226_3_8), .val (.int j226_3_9), .val (.int (2 : Int32))] [(.int (0 : Int32))])) _
              exact retN X hx (t := .boolean) Bd.returns (by simp) (hb hby d4_254) hr
            · exact ⟨by rw [hu, own_u8A, if_pos hc10, if_pos (show own_ch_0 f_b1 en i = (0 : Int32) by rw [hv, own_ch_226_3, if_neg hc250])], N, rfl⟩
        have J226_2 : ∀ (T : State) (lc : List Loc), Stand p l e ({ frames := 0, cells := 0, slots := 0, locals := 0 } : Room) s m #[(.ref b1), (.int u1), (.int u2)] below meth c T lc 0 0 → Fr n0 lc → T.heap = h0 → ∀ (j226_2_5 : Int32) (j226_2_7 : Int32) (j226_2_8 : Int32) (j226_2_9 : Int32), (2 : Int32) < (en - i) → own_ch_0 f_b1 en i = own_ch_226_2 f_b1 en i j226_2_5 j226_2_7 j226_2_8 j226_2_9 → own_Go p e below s (Q4 b1 cl_b1 f_b1 z_b1 u1 u2 h0 n0) ({ frames := 0, cells := 0, slots := 0, locals := 0 } : Room).cells ({ frames := 0, cells := 0, slots := 0, locals := 0 } : Room).slots (T.setTop (mkF m 226 #[.val (.ref b1), .val (.int u1), .val (.int u2), .val (.int en), .val (.int i), .val (.int j226_2_5), .val (.int (2 : Int32)), .val (.int j226_2_7), .val (.int j226_2_8), .val (.int j226_2_9), sl10] [])) := by
          intro T lc X N eT j226_2_5 j226_2_7 j226_2_8 j226_2_9  hc193 hv
          have hc233_7 : ¬ ((2 : Int32) < (2 : Int32)) := (by decide)
          have hi8 : ¬ (i + (2 : Int32)) < 0 ∧ (i + (2 : Int32)).toNatClampNeg < z_b1.toNatClampNeg := own_ixn j1 hc10 j2 hc193 (by decide)
          refine own_go (b := T.setTop (mkF m 250 #[.val (.ref b1), .val (.int u1), .val (.int u2), .val (.int en), .val (.int i), .val (.int j226_2_5), .val (.int (2 : Int32)), .val (.int j226_2_7), .val (.int j226_2_8), .val (.int j226_2_9), .val (.int (2 : Int32))] [(.int (128 : Int32)), (.int ((f_b1 (i + (2 : Int32)).toNatClampNeg) &&& (192 : Int32)))])) (fun t k => ?_) ?_
          · show Steps p.tables e below (T.setTop (mkF m 226 #[.val (.ref b1), .val (.int u1), .val (.int u2), .val (.int en), .val (.int i), .val (.int j226_2_5), .val (.int (2 : Int32)), .val (.int j226_2_7), .val (.int j226_2_8), .val (.int j226_2_9), sl10] [])) _
            refine XS.iconst X.here hx rfl (hb hby d4_226) ?_
            show Steps p.tables e below (T.setTop (mkF m 227 #[.val (.ref b1), .val (.int u1), .val (.int u2), .val (.int en), .val (.int i), .val (.int j226_2_5), .val (.int (2 : Int32)), .val (.int j226_2_7), .val (.int j226_2_8), .val (.int j226_2_9), sl10] [(.int (2 : Int32))])) _
            refine XS.istoreS X.here hx rfl (hb hby d4_227) rfl rfl o10 ?_
            show Steps p.tables e below (T.setTop (mkF m 229 #[.val (.ref b1), .val (.int u1), .val (.int u2), .val (.int en), .val (.int i), .val (.int j226_2_5), .val (.int (2 : Int32)), .val (.int j226_2_7), .val (.int j226_2_8), .val (.int j226_2_9), .val (.int (2 : Int32))] [])) _
            refine XS.iload X.here hx rfl (hb hby d4_229) rfl ?_
            show Steps p.tables e below (T.setTop (mkF m 231 #[.val (.ref b1), .val (.int u1), .val (.int u2), .val (.int en), .val (.int i), .val (.int j226_2_5), .val (.int (2 : Int32)), .val (.int j226_2_7), .val (.int j226_2_8), .val (.int j226_2_9), .val (.int (2 : Int32))] [(.int (2 : Int32))])) _
            refine XS.iload X.here hx rfl (hb hby d4_231) rfl ?_
            show Steps p.tables e below (T.setTop (mkF m 233 #[.val (.ref b1), .val (.int u1), .val (.int u2), .val (.int en), .val (.int i), .val (.int j226_2_5), .val (.int (2 : Int32)), .val (.int j226_2_7), .val (.int j226_2_8), .val (.int j226_2_9), .val (.int (2 : Int32))] [(.int (2 : Int32)), (.int (2 : Int32))])) _
            refine XS.icmpNo X.here hx rfl (hb hby d4_233) rfl (flt hc233_7).2.2.1 ?_
            show Steps p.tables e below (T.setTop (mkF m 236 #[.val (.ref b1), .val (.int u1), .val (.int u2), .val (.int en), .val (.int i), .val (.int j226_2_5), .val (.int (2 : Int32)), .val (.int j226_2_7), .val (.int j226_2_8), .val (.int j226_2_9), .val (.int (2 : Int32))] [])) _
            refine XS.aloadN X.here hx rfl (hb hby d4_236) rfl rfl ?_
            show Steps p.tables e below (T.setTop (mkF m 237 #[.val (.ref b1), .val (.int u1), .val (.int u2), .val (.int en), .val (.int i), .val (.int j226_2_5), .val (.int (2 : Int32)), .val (.int j226_2_7), .val (.int j226_2_8), .val (.int j226_2_9), .val (.int (2 : Int32))] [(.ref b1)])) _
            refine XS.iload X.here hx rfl (hb hby d4_237) rfl ?_
            show Steps p.tables e below (T.setTop (mkF m 239 #[.val (.ref b1), .val (.int u1), .val (.int u2), .val (.int en), .val (.int i), .val (.int j226_2_5), .val (.int (2 : Int32)), .val (.int j226_2_7), .val (.int j226_2_8), .val (.int j226_2_9), .val (.int (2 : Int32))] [(.int i), (.ref b1)])) _
            refine XS.iload X.here hx rfl (hb hby d4_239) rfl ?_
            show Steps p.tables e below (T.setTop (mkF m 241 #[.val (.ref b1), .val (.int u1), .val (.int u2), .val (.int en), .val (.int i), .val (.int j226_2_5), .val (.int (2 : Int32)), .val (.int j226_2_7), .val (.int j226_2_8), .val (.int j226_2_9), .val (.int (2 : Int32))] [(.int (2 : Int32)), (.int i), (.ref b1)])) _
            refine XS.iadd X.here hx rfl (hb hby d4_241) rfl ?_
            show Steps p.tables e below (T.setTop (mkF m 242 #[.val (.ref b1), .val (.int u1), .val (.int u2), .val (.int en), .val (.int i), .val (.int j226_2_5), .val (.int (2 : Int32)), .val (.int j226_2_7), .val (.int j226_2_8), .val (.int j226_2_9), .val (.int (2 : Int32))] [(.int (i + (2 : Int32))), (.ref b1)])) _
            refine X.baloadBytes hx (j := (i + (2 : Int32))) (v := (.int (f_b1 (i + (2 : Int32)).toNatClampNeg))) (by rw [eT]; exact Ar_b1.1) (State.isArrayOf_alike hZ.alike Ar_b1.2.1) Ar_b1.2.2 (own_hin S_b1 hi8) (H_b1 _ hi8.2) (g := (mkF m 242 #[.val (.ref b1), .val (.int u1), .val (.int u2), .val (.int en), .val (.int i), .val (.int j226_2_5), .val (.int (2 : Int32)), .val (.int j226_2_7), .val (.int j226_2_8), .val (.int j226_2_9), .val (.int (2 : Int32))] [(.int (i + (2 : Int32))), (.ref b1)])) rfl rfl (hb hby d4_242) _ ?_
            show Steps p.tables e below (T.setTop (mkF m 243 #[.val (.ref b1), .val (.int u1), .val (.int u2), .val (.int en), .val (.int i), .val (.int j226_2_5), .val (.int (2 : Int32)), .val (.int j226_2_7), .val (.int j226_2_8), .val (.int j226_2_9), .val (.int (2 : Int32))] [(.int (f_b1 (i + (2 : Int32)).toNatClampNeg))])) _
            refine XS.sipush X.here hx rfl (hb hby d4_243) ?_
            show Steps p.tables e below (T.setTop (mkF m 246 #[.val (.ref b1), .val (.int u1), .val (.int u2), .val (.int en), .val (.int i), .val (.int j226_2_5), .val (.int (2 : Int32)), .val (.int j226_2_7), .val (.int j226_2_8), .val (.int j226_2_9), .val (.int (2 : Int32))] [(.int (192 : Int32)), (.int (f_b1 (i + (2 : Int32)).toNatClampNeg))])) _
            refine XS.iand X.here hx rfl (hb hby d4_246) rfl ?_
            show Steps p.tables e below (T.setTop (mkF m 247 #[.val (.ref b1), .val (.int u1), .val (.int u2), .val (.int en), .val (.int i), .val (.int j226_2_5), .val (.int (2 : Int32)), .val (.int j226_2_7), .val (.int j226_2_8), .val (.int j226_2_9), .val (.int (2 : Int32))] [(.int ((f_b1 (i + (2 : Int32)).toNatClampNeg) &&& (192 : Int32)))])) _
            refine XS.sipush X.here hx rfl (hb hby d4_247) ?_
            show Steps p.tables e below (T.setTop (mkF m 250 #[.val (.ref b1), .val (.int u1), .val (.int u2), .val (.int en), .val (.int i), .val (.int j226_2_5), .val (.int (2 : Int32)), .val (.int j226_2_7), .val (.int j226_2_8), .val (.int j226_2_9), .val (.int (2 : Int32))] [(.int (128 : Int32)), (.int ((f_b1 (i + (2 : Int32)).toNatClampNeg) &&& (192 : Int32)))])) _
            exact k
          by_cases hc250 : ((f_b1 (i + (2 : Int32)).toNatClampNeg) &&& (192 : Int32)) = (128 : Int32)
          · have hc233_9 : (2 : Int32) < (3 : Int32) := (by decide)
            refine own_go (b := T.setTop (mkF m 7 #[.val (.ref b1), .val (.int u1), .val (.int u2), .val (.int en), .val (.int (i + (3 : Int32))), .val (.int j226_2_5), .val (.int (2 : Int32)), .val (.int j226_2_7), .val (.int j226_2_8), .val (.int j226_2_9), .val (.int (3 : Int32))] [])) (fun t k => ?_) ?_
            · show Steps p.tables e below (T.setTop (mkF m 250 #[.val (.ref b1), .val (.int u1), .val (.int u2), .val (.int en), .val (.int i), .val (.int j226_2_5), .val (.int (2 : Int32)), .val (.int j226_2_7), .val (.int j226_2_8), .val (.int j226_2_9), .val (.int (2 : Int32))] [(.int (128 : Int32)), (.int ((f_b1 (i + (2 : Int32)).toNatClampNeg) &&& (192 : Int32)))])) _
              refine XS.icmpYes X.here hx rfl (pc0 := 250) (pc' := 255) rfl (hb hby d4_250) rfl (teq hc250).1 (by decide) (by decide) ?_
              show Steps p.tables e below (T.setTop (mkF m 255 #[.val (.ref b1), .val (.int u1), .val (.int u2), .val (.int en), .val (.int i), .val (.int j226_2_5), .val (.int (2 : Int32)), .val (.int j226_2_7), .val (.int j226_2_8), .val (.int j226_2_9), .val (.int (2 : Int32))] [])) _
              refine XS.iinc X.here hx rfl (hb hby d4_255) rfl (l' := #[.val (.ref b1), .val (.int u1), .val (.int u2), .val (.int en), .val (.int i), .val (.int j226_2_5), .val (.int (2 : Int32)), .val (.int j226_2_7), .val (.int j226_2_8), .val (.int j226_2_9), .val (.int (3 : Int32))]) rfl ?_
              show Steps p.tables e below (T.setTop (mkF m 258 #[.val (.ref b1), .val (.int u1), .val (.int u2), .val (.int en), .val (.int i), .val (.int j226_2_5), .val (.int (2 : Int32)), .val (.int j226_2_7), .val (.int j226_2_8), .val (.int j226_2_9), .val (.int (3 : Int32))] [])) _
              refine XS.goto X.here hx rfl (pc0 := 258) (pc' := 229) rfl (hb hby d4_258) (by decide) (by decide) ?_
              show Steps p.tables e below (T.setTop (mkF m 229 #[.val (.ref b1), .val (.int u1), .val (.int u2), .val (.int en), .val (.int i), .val (.int j226_2_5), .val (.int (2 : Int32)), .val (.int j226_2_7), .val (.int j226_2_8), .val (.int j226_2_9), .val (.int (3 : Int32))] [])) _
              refine XS.iload X.here hx rfl (hb hby d4_229) rfl ?_
              show Steps p.tables e below (T.setTop (mkF m 231 #[.val (.ref b1), .val (.int u1), .val (.int u2), .val (.int en), .val (.int i), .val (.int j226_2_5), .val (.int (2 : Int32)), .val (.int j226_2_7), .val (.int j226_2_8), .val (.int j226_2_9), .val (.int (3 : Int32))] [(.int (3 : Int32))])) _
              refine XS.iload X.here hx rfl (hb hby d4_231) rfl ?_
              show Steps p.tables e below (T.setTop (mkF m 233 #[.val (.ref b1), .val (.int u1), .val (.int u2), .val (.int en), .val (.int i), .val (.int j226_2_5), .val (.int (2 : Int32)), .val (.int j226_2_7), .val (.int j226_2_8), .val (.int j226_2_9), .val (.int (3 : Int32))] [(.int (2 : Int32)), (.int (3 : Int32))])) _
              refine XS.icmpYes X.here hx rfl (pc0 := 233) (pc' := 261) rfl (hb hby d4_233) rfl (tlt hc233_9).2.2.1 (by decide) (by decide) ?_
              show Steps p.tables e below (T.setTop (mkF m 261 #[.val (.ref b1), .val (.int u1), .val (.int u2), .val (.int en), .val (.int i), .val (.int j226_2_5), .val (.int (2 : Int32)), .val (.int j226_2_7), .val (.int j226_2_8), .val (.int j226_2_9), .val (.int (3 : Int32))] [])) _
              refine XS.iload X.here hx rfl (hb hby d4_261) rfl ?_
              show Steps p.tables e below (T.setTop (mkF m 263 #[.val (.ref b1), .val (.int u1), .val (.int u2), .val (.int en), .val (.int i), .val (.int j226_2_5), .val (.int (2 : Int32)), .val (.int j226_2_7), .val (.int j226_2_8), .val (.int j226_2_9), .val (.int (3 : Int32))] [(.int i)])) _
              refine XS.iconst X.here hx rfl (hb hby d4_263) ?_
              show Steps p.tables e below (T.setTop (mkF m 264 #[.val (.ref b1), .val (.int u1), .val (.int u2), .val (.int en), .val (.int i), .val (.int j226_2_5), .val (.int (2 : Int32)), .val (.int j226_2_7), .val (.int j226_2_8), .val (.int j226_2_9), .val (.int (3 : Int32))] [(.int (1 : Int32)), (.int i)])) _
              refine XS.iload X.here hx rfl (hb hby d4_264) rfl ?_
              show Steps p.tables e below (T.setTop (mkF m 266 #[.val (.ref b1), .val (.int u1), .val (.int u2), .val (.int en), .val (.int i), .val (.int j226_2_5), .val (.int (2 : Int32)), .val (.int j226_2_7), .val (.int j226_2_8), .val (.int j226_2_9), .val (.int (3 : Int32))] [(.int (2 : Int32)), (.int (1 : Int32)), (.int i)])) _
              refine XS.iadd X.here hx rfl (hb hby d4_266) rfl ?_
              show Steps p.tables e below (T.setTop (mkF m 267 #[.val (.ref b1), .val (.int u1), .val (.int u2), .val (.int en), .val (.int i), .val (.int j226_2_5), .val (.int (2 : Int32)), .val (.int j226_2_7), .val (.int j226_2_8), .val (.int j226_2_9), .val (.int (3 : Int32))] [(.int (3 : Int32)), (.int i)])) _
              refine XS.iadd X.here hx rfl (hb hby d4_267) rfl ?_
              show Steps p.tables e below (T.setTop (mkF m 268 #[.val (.ref b1), .val (.int u1), .val (.int u2), .val (.int en), .val (.int i), .val (.int j226_2_5), .val (.int (2 : Int32)), .val (.int j226_2_7), .val (.int j226_2_8), .val (.int j226_2_9), .val (.int (3 : Int32))] [(.int (i + (3 : Int32)))])) _
              refine XS.istore X.here hx rfl (hb hby d4_268) rfl (l' := #[.val (.ref b1), .val (.int u1), .val (.int u2), .val (.int en), .val (.int (i + (3 : Int32))), .val (.int j226_2_5), .val (.int (2 : Int32)), .val (.int j226_2_7), .val (.int j226_2_8), .val (.int j226_2_9), .val (.int (3 : Int32))]) rfl ?_
              show Steps p.tables e below (T.setTop (mkF m 270 #[.val (.ref b1), .val (.int u1), .val (.int u2), .val (.int en), .val (.int (i + (3 : Int32))), .val (.int j226_2_5), .val (.int (2 : Int32)), .val (.int j226_2_7), .val (.int j226_2_8), .val (.int j226_2_9), .val (.int (3 : Int32))] [])) _
              refine XS.goto X.here hx rfl (pc0 := 270) (pc' := 7) rfl (hb hby d4_270) (by decide) (by decide) ?_
              show Steps p.tables e below (T.setTop (mkF m 7 #[.val (.ref b1), .val (.int u1), .val (.int u2), .val (.int en), .val (.int (i + (3 : Int32))), .val (.int j226_2_5), .val (.int (2 : Int32)), .val (.int j226_2_7), .val (.int j226_2_8), .val (.int j226_2_9), .val (.int (3 : Int32))] [])) _
              exact k
            have ad := own_an j1 hc10 hc193 (k := (3 : Int32)) (by decide)
            have ek : (3 : Int32).toInt = 3 := rfl
            have hch : own_ch_0 f_b1 en i = (3 : Int32) := by rw [hv, own_ch_226_2, if_pos hc250]
            exact ih T _ X N eT _ _ _ _ _ _ _ (One.val rfl) (One.val rfl) (One.val rfl) (One.val rfl) (One.val rfl) (One.val rfl) (by rw [ad.1]; omega) (by rw [ad.1]; omega) (by rw [hu, own_u8A, if_pos hc10, if_neg (by rw [hch]; decide), hch])
          · refine own_end X Bd.notSynchronized (v := some (.int (0 : Int32))) (fun h => by rw [Bd.returns] at h; cases h) (fun fs hr => ?_) eT ?_ (by decide) (by decide)
            · show Steps p.tables e below (T.setTop (mkF m 250 #[.val (.ref b1), .val (.int u1), .val (.int u2), .val (.int en), .val (.int i), .val (.int j226_2_5), .val (.int (2 : Int32)), .val (.int j226_2_7), .val (.int j226_2_8), .val (.int j226_2_9), .val (.int (2 : Int32))] [(.int (128 : Int32)), (.int ((f_b1 (i + (2 : Int32)).toNatClampNeg) &&& (192 : Int32)))])) _
              refine XS.icmpNo X.here hx rfl (hb hby d4_250) rfl (feq hc250).1 ?_
              show Steps p.tables e below (T.setTop (mkF m 253 #[.val (.ref b1), .val (.int u1), .val (.int u2), .val (.int en), .val (.int i), .val (.int j226_2_5), .val (.int (2 : Int32)), .val (.int j226_2_7), .val (.int j226_2_8), .val (.int j226_2_9), .val (.int (2 : Int32))] [])) _
              refine XS.iconst X.here hx rfl (hb hby d4_253) ?_
              show Steps p.tables e below (T.setTop (mkF m 254 #[.val (.ref b1), .val (.int u1), .val (.int u2), .val (.int en), .val (.int i), .val (.int j226_2_5), .val (.int (2 : Int32)), .val (.int j226_2_7), .val (.int j226_2_8), .val (.int j226_2_9), .val (.int (2 : Int32))] [(.int (0 : Int32))])) _
              exact retN X hx (t := .boolean) Bd.returns (by simp) (hb hby d4_254) hr
            · exact ⟨by rw [hu, own_u8A, if_pos hc10, if_pos (show own_ch_0 f_b1 en i = (0 : Int32) by rw [hv, own_ch_226_2, if_neg hc250])], N, rfl⟩
        have J226_1 : ∀ (T : State) (lc : List Loc), Stand p l e ({ frames := 0, cells := 0, slots := 0, locals := 0 } : Room) s m #[(.ref b1), (.int u1), (.int u2)] below meth c T lc 0 0 → Fr n0 lc → T.heap = h0 → ∀ (j226_1_5 : Int32) (j226_1_9 : Int32), (1 : Int32) < (en - i) → own_ch_0 f_b1 en i = own_ch_226_1 f_b1 en i j226_1_5 j226_1_9 → own_Go p e below s (Q4 b1 cl_b1 f_b1 z_b1 u1 u2 h0 n0) ({ frames := 0, cells := 0, slots := 0, locals := 0 } : Room).cells ({ frames := 0, cells := 0, slots := 0, locals := 0 } : Room).slots (T.setTop (mkF m 226 #[.val (.ref b1), .val (.int u1), .val (.int u2), .val (.int en), .val (.int i), .val (.int j226_1_5), .val (.int (1 : Int32)), .val (.int (128 : Int32)), .val (.int (191 : Int32)), .val (.int j226_1_9), sl10] [])) := by
          intro T lc X N eT j226_1_5 j226_1_9  hc193 hv
          have hc233_10 : (1 : Int32) < (2 : Int32) := (by decide)
          refine own_go (b := T.setTop (mkF m 7 #[.val (.ref b1), .val (.int u1), .val (.int u2), .val (.int en), .val (.int (i + (2 : Int32))), .val (.int j226_1_5), .val (.int (1 : Int32)), .val (.int (128 : Int32)), .val (.int (191 : Int32)), .val (.int j226_1_9), .val (.int (2 : Int32))] [])) (fun t k => ?_) ?_
          · show Steps p.tables e below (T.setTop (mkF m 226 #[.val (.ref b1), .val (.int u1), .val (.int u2), .val (.int en), .val (.int i), .val (.int j226_1_5), .val (.int (1 : Int32)), .val (.int (128 : Int32)), .val (.int (191 : Int32)), .val (.int j226_1_9), sl10] [])) _
            refine XS.iconst X.here hx rfl (hb hby d4_226) ?_
            show Steps p.tables e below (T.setTop (mkF m 227 #[.val (.ref b1), .val (.int u1), .val (.int u2), .val (.int en), .val (.int i), .val (.int j226_1_5), .val (.int (1 : Int32)), .val (.int (128 : Int32)), .val (.int (191 : Int32)), .val (.int j226_1_9), sl10] [(.int (2 : Int32))])) _
            refine XS.istoreS X.here hx rfl (hb hby d4_227) rfl rfl o10 ?_
            show Steps p.tables e below (T.setTop (mkF m 229 #[.val (.ref b1), .val (.int u1), .val (.int u2), .val (.int en), .val (.int i), .val (.int j226_1_5), .val (.int (1 : Int32)), .val (.int (128 : Int32)), .val (.int (191 : Int32)), .val (.int j226_1_9), .val (.int (2 : Int32))] [])) _
            refine XS.iload X.here hx rfl (hb hby d4_229) rfl ?_
            show Steps p.tables e below (T.setTop (mkF m 231 #[.val (.ref b1), .val (.int u1), .val (.int u2), .val (.int en), .val (.int i), .val (.int j226_1_5), .val (.int (1 : Int32)), .val (.int (128 : Int32)), .val (.int (191 : Int32)), .val (.int j226_1_9), .val (.int (2 : Int32))] [(.int (2 : Int32))])) _
            refine XS.iload X.here hx rfl (hb hby d4_231) rfl ?_
            show Steps p.tables e below (T.setTop (mkF m 233 #[.val (.ref b1), .val (.int u1), .val (.int u2), .val (.int en), .val (.int i), .val (.int j226_1_5), .val (.int (1 : Int32)), .val (.int (128 : Int32)), .val (.int (191 : Int32)), .val (.int j226_1_9), .val (.int (2 : Int32))] [(.int (1 : Int32)), (.int (2 : Int32))])) _
            refine XS.icmpYes X.here hx rfl (pc0 := 233) (pc' := 261) rfl (hb hby d4_233) rfl (tlt hc233_10).2.2.1 (by decide) (by decide) ?_
            show Steps p.tables e below (T.setTop (mkF m 261 #[.val (.ref b1), .val (.int u1), .val (.int u2), .val (.int en), .val (.int i), .val (.int j226_1_5), .val (.int (1 : Int32)), .val (.int (128 : Int32)), .val (.int (191 : Int32)), .val (.int j226_1_9), .val (.int (2 : Int32))] [])) _
            refine XS.iload X.here hx rfl (hb hby d4_261) rfl ?_
            show Steps p.tables e below (T.setTop (mkF m 263 #[.val (.ref b1), .val (.int u1), .val (.int u2), .val (.int en), .val (.int i), .val (.int j226_1_5), .val (.int (1 : Int32)), .val (.int (128 : Int32)), .val (.int (191 : Int32)), .val (.int j226_1_9), .val (.int (2 : Int32))] [(.int i)])) _
            refine XS.iconst X.here hx rfl (hb hby d4_263) ?_
            show Steps p.tables e below (T.setTop (mkF m 264 #[.val (.ref b1), .val (.int u1), .val (.int u2), .val (.int en), .val (.int i), .val (.int j226_1_5), .val (.int (1 : Int32)), .val (.int (128 : Int32)), .val (.int (191 : Int32)), .val (.int j226_1_9), .val (.int (2 : Int32))] [(.int (1 : Int32)), (.int i)])) _
            refine XS.iload X.here hx rfl (hb hby d4_264) rfl ?_
            show Steps p.tables e below (T.setTop (mkF m 266 #[.val (.ref b1), .val (.int u1), .val (.int u2), .val (.int en), .val (.int i), .val (.int j226_1_5), .val (.int (1 : Int32)), .val (.int (128 : Int32)), .val (.int (191 : Int32)), .val (.int j226_1_9), .val (.int (2 : Int32))] [(.int (1 : Int32)), (.int (1 : Int32)), (.int i)])) _
            refine XS.iadd X.here hx rfl (hb hby d4_266) rfl ?_
            show Steps p.tables e below (T.setTop (mkF m 267 #[.val (.ref b1), .val (.int u1), .val (.int u2), .val (.int en), .val (.int i), .val (.int j226_1_5), .val (.int (1 : Int32)), .val (.int (128 : Int32)), .val (.int (191 : Int32)), .val (.int j226_1_9), .val (.int (2 : Int32))] [(.int (2 : Int32)), (.int i)])) _
            refine XS.iadd X.here hx rfl (hb hby d4_267) rfl ?_
            show Steps p.tables e below (T.setTop (mkF m 268 #[.val (.ref b1), .val (.int u1), .val (.int u2), .val (.int en), .val (.int i), .val (.int j226_1_5), .val (.int (1 : Int32)), .val (.int (128 : Int32)), .val (.int (191 : Int32)), .val (.int j226_1_9), .val (.int (2 : Int32))] [(.int (i + (2 : Int32)))])) _
            refine XS.istore X.here hx rfl (hb hby d4_268) rfl (l' := #[.val (.ref b1), .val (.int u1), .val (.int u2), .val (.int en), .val (.int (i + (2 : Int32))), .val (.int j226_1_5), .val (.int (1 : Int32)), .val (.int (128 : Int32)), .val (.int (191 : Int32)), .val (.int j226_1_9), .val (.int (2 : Int32))]) rfl ?_
            show Steps p.tables e below (T.setTop (mkF m 270 #[.val (.ref b1), .val (.int u1), .val (.int u2), .val (.int en), .val (.int (i + (2 : Int32))), .val (.int j226_1_5), .val (.int (1 : Int32)), .val (.int (128 : Int32)), .val (.int (191 : Int32)), .val (.int j226_1_9), .val (.int (2 : Int32))] [])) _
            refine XS.goto X.here hx rfl (pc0 := 270) (pc' := 7) rfl (hb hby d4_270) (by decide) (by decide) ?_
            show Steps p.tables e below (T.setTop (mkF m 7 #[.val (.ref b1), .val (.int u1), .val (.int u2), .val (.int en), .val (.int (i + (2 : Int32))), .val (.int j226_1_5), .val (.int (1 : Int32)), .val (.int (128 : Int32)), .val (.int (191 : Int32)), .val (.int j226_1_9), .val (.int (2 : Int32))] [])) _
            exact k
          have ad := own_an j1 hc10 hc193 (k := (2 : Int32)) (by decide)
          have ek : (2 : Int32).toInt = 2 := rfl
          have hch : own_ch_0 f_b1 en i = (2 : Int32) := by rw [hv, own_ch_226_1]
          exact ih T _ X N eT _ _ _ _ _ _ _ (One.val rfl) (One.val rfl) (One.val rfl) (One.val rfl) (One.val rfl) (One.val rfl) (by rw [ad.1]; omega) (by rw [ad.1]; omega) (by rw [hu, own_u8A, if_pos hc10, if_neg (by rw [hch]; decide), hch])
        have J210_3_144_191 : ∀ (T : State) (lc : List Loc), Stand p l e ({ frames := 0, cells := 0, slots := 0, locals := 0 } : Room) s m #[(.ref b1), (.int u1), (.int u2)] below meth c T lc 0 0 → Fr n0 lc → T.heap = h0 → ∀ (j210_3_144_191_5 : Int32) (j210_3_144_191_9 : Int32), (3 : Int32) < (en - i) → own_ch_0 f_b1 en i = own_ch_210_3_144_191 f_b1 en i j210_3_144_191_5 j210_3_144_191_9 → own_Go p e below s (Q4 b1 cl_b1 f_b1 z_b1 u1 u2 h0 n0) ({ frames := 0, cells := 0, slots := 0, locals := 0 } : Room).cells ({ frames := 0, cells := 0, slots := 0, locals := 0 } : Room).slots (T.setTop (mkF m 210 #[.val (.ref b1), .val (.int u1), .val (.int u2), .val (.int en), .val (.int i), .val (.int j210_3_144_191_5), .val (.int (3 : Int32)), .val (.int (144 : Int32)), .val (.int (191 : Int32)), .val (.int j210_3_144_191_9), sl10] [])) := by
          intro T lc X N eT j210_3_144_191_5 j210_3_144_191_9  hc193 hv
          refine own_go (b := T.setTop (mkF m 214 #[.val (.ref b1), .val (.int u1), .val (.int u2), .val (.int en), .val (.int i), .val (.int j210_3_144_191_5), .val (.int (3 : Int32)), .val (.int (144 : Int32)), .val (.int (191 : Int32)), .val (.int j210_3_144_191_9), sl10] [(.int (144 : Int32)), (.int j210_3_144_191_9)])) (fun t k => ?_) ?_
          · show Steps p.tables e below (T.setTop (mkF m 210 #[.val (.ref b1), .val (.int u1), .val (.int u2), .val (.int en), .val (.int i), .val (.int j210_3_144_191_5), .val (.int (3 : Int32)), .val (.int (144 : Int32)), .val (.int (191 : Int32)), .val (.int j210_3_144_191_9), sl10] [])) _
            refine XS.iload X.here hx rfl (hb hby d4_210) rfl ?_
            show Steps p.tables e below (T.setTop (mkF m 212 #[.val (.ref b1), .val (.int u1), .val (.int u2), .val (.int en), .val (.int i), .val (.int j210_3_144_191_5), .val (.int (3 : Int32)), .val (.int (144 : Int32)), .val (.int (191 : Int32)), .val (.int j210_3_144_191_9), sl10] [(.int j210_3_144_191_9)])) _
            refine XS.iload X.here hx rfl (hb hby d4_212) rfl ?_
            show Steps p.tables e below (T.setTop (mkF m 214 #[.val (.ref b1), .val (.int u1), .val (.int u2), .val (.int en), .val (.int i), .val (.int j210_3_144_191_5), .val (.int (3 : Int32)), .val (.int (144 : Int32)), .val (.int (191 : Int32)), .val (.int j210_3_144_191_9), sl10] [(.int (144 : Int32)), (.int j210_3_144_191_9)])) _
            exact k
          by_cases hc214 : j210_3_144_191_9 < (144 : Int32)
          · refine own_end X Bd.notSynchronized (v := some (.int (0 : Int32))) (fun h => by rw [Bd.returns] at h; cases h) (fun fs hr => ?_) eT ?_ (by decide) (by decide)
            · show Steps p.tables e below (T.setTop (mkF m 214 #[.val (.ref b1), .val (.int u1), .val (.int u2), .val (.int en), .val (.int i), .val (.int j210_3_144_191_5), .val (.int (3 : Int32)), .val (.int (144 : Int32)), .val (.int (191 : Int32)), .val (.int j210_3_144_191_9), sl10] [(.int (144 : Int32)), (.int j210_3_144_191_9)])) _
              refine XS.icmpYes X.here hx rfl (pc0 := 214) (pc' := 224) rfl (hb hby d4_214) rfl (tlt hc214).1 (by decide) (by decide) ?_
              show Steps p.tables e below (T.setTop (mkF m 224 #[.val (.ref b1), .val (.int u1), .val (.int u2), .val (.int en), .val (.int i), .val (.int j210_3_144_191_5), .val (.int (3 : Int32)), .val (.int (144 : Int32)), .val (.int (191 : Int32)), .val (.int j210_3_144_191_9), sl10] [])) _
              refine XS.iconst X.here hx rfl (hb hby d4_224) ?_
              show Steps p.tables e below (T.setTop (mkF m 225 #[.val (.ref b1), .val (.int u1), .val (.int u2), .val (.int en), .val (.int i), .val (.int j210_3_144_191_5), .val (.int (3 : Int32)), .val (.int (144 : Int32)), .val (.int (191 : Int32)), .val (.int j210_3_144_191_9), sl10] [(.int (0 : Int32))])) _
              exact retN X hx (t := .boolean) Bd.returns (by simp) (hb hby d4_225) hr
            · exact ⟨by rw [hu, own_u8A, if_pos hc10, if_pos (show own_ch_0 f_b1 en i = (0 : Int32) by rw [hv, own_ch_210_3_144_191, if_pos hc214])], N, rfl⟩
          · refine own_go (b := T.setTop (mkF m 221 #[.val (.ref b1), .val (.int u1), .val (.int u2), .val (.int en), .val (.int i), .val (.int j210_3_144_191_5), .val (.int (3 : Int32)), .val (.int (144 : Int32)), .val (.int (191 : Int32)), .val (.int j210_3_144_191_9), sl10] [(.int (191 : Int32)), (.int j210_3_144_191_9)])) (fun t k => ?_) ?_
            · show Steps p.tables e below (T.setTop (mkF m 214 #[.val (.ref b1), .val (.int u1), .val (.int u2), .val (.int en), .val (.int i), .val (.int j210_3_144_191_5), .val (.int (3 : Int32)), .val (.int (144 : Int32)), .val (.int (191 : Int32)), .val (.int j210_3_144_191_9), sl10] [(.int (144 : Int32)), (.int j210_3_144_191_9)])) _
              refine XS.icmpNo X.here hx rfl (hb hby d4_214) rfl (flt hc214).1 ?_
              show Steps p.tables e below (T.setTop (mkF m 217 #[.val (.ref b1), .val (.int u1), .val (.int u2), .val (.int en), .val (.int i), .val (.int j210_3_144_191_5), .val (.int (3 : Int32)), .val (.int (144 : Int32)), .val (.int (191 : Int32)), .val (.int j210_3_144_191_9), sl10] [])) _
              refine XS.iload X.here hx rfl (hb hby d4_217) rfl ?_
              show Steps p.tables e below (T.setTop (mkF m 219 #[.val (.ref b1), .val (.int u1), .val (.int u2), .val (.int en), .val (.int i), .val (.int j210_3_144_191_5), .val (.int (3 : Int32)), .val (.int (144 : Int32)), .val (.int (191 : Int32)), .val (.int j210_3_144_191_9), sl10] [(.int j210_3_144_191_9)])) _
              refine XS.iload X.here hx rfl (hb hby d4_219) rfl ?_
              show Steps p.tables e below (T.setTop (mkF m 221 #[.val (.ref b1), .val (.int u1), .val (.int u2), .val (.int en), .val (.int i), .val (.int j210_3_144_191_5), .val (.int (3 : Int32)), .val (.int (144 : Int32)), .val (.int (191 : Int32)), .val (.int j210_3_144_191_9), sl10] [(.int (191 : Int32)), (.int j210_3_144_191_9)])) _
              exact k
            by_cases hc221 : (191 : Int32) < j210_3_144_191_9
            · refine own_end X Bd.notSynchronized (v := some (.int (0 : Int32))) (fun h => by rw [Bd.returns] at h; cases h) (fun fs hr => ?_) eT ?_ (by decide) (by decide)
              · show Steps p.tables e below (T.setTop (mkF m 221 #[.val (.ref b1), .val (.int u1), .val (.int u2), .val (.int en), .val (.int i), .val (.int j210_3_144_191_5), .val (.int (3 : Int32)), .val (.int (144 : Int32)), .val (.int (191 : Int32)), .val (.int j210_3_144_191_9), sl10] [(.int (191 : Int32)), (.int j210_3_144_191_9)])) _
                refine XS.icmpNo X.here hx rfl (hb hby d4_221) rfl (tlt hc221).2.2.2 ?_
                show Steps p.tables e below (T.setTop (mkF m 224 #[.val (.ref b1), .val (.int u1), .val (.int u2), .val (.int en), .val (.int i), .val (.int j210_3_144_191_5), .val (.int (3 : Int32)), .val (.int (144 : Int32)), .val (.int (191 : Int32)), .val (.int j210_3_144_191_9), sl10] [])) _
                refine XS.iconst X.here hx rfl (hb hby d4_224) ?_
                show Steps p.tables e below (T.setTop (mkF m 225 #[.val (.ref b1), .val (.int u1), .val (.int u2), .val (.int en), .val (.int i), .val (.int j210_3_144_191_5), .val (.int (3 : Int32)), .val (.int (144 : Int32)), .val (.int (191 : Int32)), .val (.int j210_3_144_191_9), sl10] [(.int (0 : Int32))])) _
                exact retN X hx (t := .boolean) Bd.returns (by simp) (hb hby d4_225) hr
              · exact ⟨by rw [hu, own_u8A, if_pos hc10, if_pos (show own_ch_0 f_b1 en i = (0 : Int32) by rw [hv, own_ch_210_3_144_191, if_neg hc214, if_pos hc221])], N, rfl⟩
            · refine own_go (b := T.setTop (mkF m 226 #[.val (.ref b1), .val (.int u1), .val (.int u2), .val (.int en), .val (.int i), .val (.int j210_3_144_191_5), .val (.int (3 : Int32)), .val (.int (144 : Int32)), .val (.int (191 : Int32)), .val (.int j210_3_144_191_9), sl10] [])) (fun t k => ?_) ?_
              · show Steps p.tables e below (T.setTop (mkF m 221 #[.val (.ref b1), .val (.int u1), .val (.int u2), .val (.int en), .val (.int i), .val (.int j210_3_144_191_5), .val (.int (3 : Int32)), .val (.int (144 : Int32)), .val (.int (191 : Int32)), .val (.int j210_3_144_191_9), sl10] [(.int (191 : Int32)), (.int j210_3_144_191_9)])) _
                refine XS.icmpYes X.here hx rfl (pc0 := 221) (pc' := 226) rfl (hb hby d4_221) rfl (flt hc221).2.2.2 (by decide) (by decide) ?_
                show Steps p.tables e below (T.setTop (mkF m 226 #[.val (.ref b1), .val (.int u1), .val (.int u2), .val (.int en), .val (.int i), .val (.int j210_3_144_191_5), .val (.int (3 : Int32)), .val (.int (144 : Int32)), .val (.int (191 : Int32)), .val (.int j210_3_144_191_9), sl10] [])) _
                exact k
              exact J226_3 T _ X N eT j210_3_144_191_5 (144 : Int32) (191 : Int32) j210_3_144_191_9  (by assumption) (by rw [hv, own_ch_210_3_144_191, if_neg hc214, if_neg hc221])
        have J210_3_144_143 : ∀ (T : State) (lc : List Loc), Stand p l e ({ frames := 0, cells := 0, slots := 0, locals := 0 } : Room) s m #[(.ref b1), (.int u1), (.int u2)] below meth c T lc 0 0 → Fr n0 lc → T.heap = h0 → ∀ (j210_3_144_143_5 : Int32) (j210_3_144_143_9 : Int32), (3 : Int32) < (en - i) → own_ch_0 f_b1 en i = own_ch_210_3_144_143 f_b1 en i j210_3_144_143_5 j210_3_144_143_9 → own_Go p e below s (Q4 b1 cl_b1 f_b1 z_b1 u1 u2 h0 n0) ({ frames := 0, cells := 0, slots := 0, locals := 0 } : Room).cells ({ frames := 0, cells := 0, slots := 0, locals := 0 } : Room).slots (T.setTop (mkF m 210 #[.val (.ref b1), .val (.int u1), .val (.int u2), .val (.int en), .val (.int i), .val (.int j210_3_144_143_5), .val (.int (3 : Int32)), .val (.int (144 : Int32)), .val (.int (143 : Int32)), .val (.int j210_3_144_143_9), sl10] [])) := by
          intro T lc X N eT j210_3_144_143_5 j210_3_144_143_9  hc193 hv
          refine own_go (b := T.setTop (mkF m 214 #[.val (.ref b1), .val (.int u1), .val (.int u2), .val (.int en), .val (.int i), .val (.int j210_3_144_143_5), .val (.int (3 : Int32)), .val (.int (144 : Int32)), .val (.int (143 : Int32)), .val (.int j210_3_144_143_9), sl10] [(.int (144 : Int32)), (.int j210_3_144_143_9)])) (fun t k => ?_) ?_
          · show Steps p.tables e below (T.setTop (mkF m 210 #[.val (.ref b1), .val (.int u1), .val (.int u2), .val (.int en), .val (.int i), .val (.int j210_3_144_143_5), .val (.int (3 : Int32)), .val (.int (144 : Int32)), .val (.int (143 : Int32)), .val (.int j210_3_144_143_9), sl10] [])) _
            refine XS.iload X.here hx rfl (hb hby d4_210) rfl ?_
            show Steps p.tables e below (T.setTop (mkF m 212 #[.val (.ref b1), .val (.int u1), .val (.int u2), .val (.int en), .val (.int i), .val (.int j210_3_144_143_5), .val (.int (3 : Int32)), .val (.int (144 : Int32)), .val (.int (143 : Int32)), .val (.int j210_3_144_143_9), sl10] [(.int j210_3_144_143_9)])) _
            refine XS.iload X.here hx rfl (hb hby d4_212) rfl ?_
            show Steps p.tables e below (T.setTop (mkF m 214 #[.val (.ref b1), .val (.int u1), .val (.int u2), .val (.int en), .val (.int i), .val (.int j210_3_144_143_5), .val (.int (3 : Int32)), .val (.int (144 : Int32)), .val (.int (143 : Int32)), .val (.int j210_3_144_143_9), sl10] [(.int (144 : Int32)), (.int j210_3_144_143_9)])) _
            exact k
          by_cases hc214 : j210_3_144_143_9 < (144 : Int32)
          · refine own_end X Bd.notSynchronized (v := some (.int (0 : Int32))) (fun h => by rw [Bd.returns] at h; cases h) (fun fs hr => ?_) eT ?_ (by decide) (by decide)
            · show Steps p.tables e below (T.setTop (mkF m 214 #[.val (.ref b1), .val (.int u1), .val (.int u2), .val (.int en), .val (.int i), .val (.int j210_3_144_143_5), .val (.int (3 : Int32)), .val (.int (144 : Int32)), .val (.int (143 : Int32)), .val (.int j210_3_144_143_9), sl10] [(.int (144 : Int32)), (.int j210_3_144_143_9)])) _
              refine XS.icmpYes X.here hx rfl (pc0 := 214) (pc' := 224) rfl (hb hby d4_214) rfl (tlt hc214).1 (by decide) (by decide) ?_
              show Steps p.tables e below (T.setTop (mkF m 224 #[.val (.ref b1), .val (.int u1), .val (.int u2), .val (.int en), .val (.int i), .val (.int j210_3_144_143_5), .val (.int (3 : Int32)), .val (.int (144 : Int32)), .val (.int (143 : Int32)), .val (.int j210_3_144_143_9), sl10] [])) _
              refine XS.iconst X.here hx rfl (hb hby d4_224) ?_
              show Steps p.tables e below (T.setTop (mkF m 225 #[.val (.ref b1), .val (.int u1), .val (.int u2), .val (.int en), .val (.int i), .val (.int j210_3_144_143_5), .val (.int (3 : Int32)), .val (.int (144 : Int32)), .val (.int (143 : Int32)), .val (.int j210_3_144_143_9), sl10] [(.int (0 : Int32))])) _
              exact retN X hx (t := .boolean) Bd.returns (by simp) (hb hby d4_225) hr
            · exact ⟨by rw [hu, own_u8A, if_pos hc10, if_pos (show own_ch_0 f_b1 en i = (0 : Int32) by rw [hv, own_ch_210_3_144_143, if_pos hc214])], N, rfl⟩
          · refine own_go (b := T.setTop (mkF m 221 #[.val (.ref b1), .val (.int u1), .val (.int u2), .val (.int en), .val (.int i), .val (.int j210_3_144_143_5), .val (.int (3 : Int32)), .val (.int (144 : Int32)), .val (.int (143 : Int32)), .val (.int j210_3_144_143_9), sl10] [(.int (143 : Int32)), (.int j210_3_144_143_9)])) (fun t k => ?_) ?_
            · show Steps p.tables e below (T.setTop (mkF m 214 #[.val (.ref b1), .val (.int u1), .val (.int u2), .val (.int en), .val (.int i), .val (.int j210_3_144_143_5), .val (.int (3 : Int32)), .val (.int (144 : Int32)), .val (.int (143 : Int32)), .val (.int j210_3_144_143_9), sl10] [(.int (144 : Int32)), (.int j210_3_144_143_9)])) _
              refine XS.icmpNo X.here hx rfl (hb hby d4_214) rfl (flt hc214).1 ?_
              show Steps p.tables e below (T.setTop (mkF m 217 #[.val (.ref b1), .val (.int u1), .val (.int u2), .val (.int en), .val (.int i), .val (.int j210_3_144_143_5), .val (.int (3 : Int32)), .val (.int (144 : Int32)), .val (.int (143 : Int32)), .val (.int j210_3_144_143_9), sl10] [])) _
              refine XS.iload X.here hx rfl (hb hby d4_217) rfl ?_
              show Steps p.tables e below (T.setTop (mkF m 219 #[.val (.ref b1), .val (.int u1), .val (.int u2), .val (.int en), .val (.int i), .val (.int j210_3_144_143_5), .val (.int (3 : Int32)), .val (.int (144 : Int32)), .val (.int (143 : Int32)), .val (.int j210_3_144_143_9), sl10] [(.int j210_3_144_143_9)])) _
              refine XS.iload X.here hx rfl (hb hby d4_219) rfl ?_
              show Steps p.tables e below (T.setTop (mkF m 221 #[.val (.ref b1), .val (.int u1), .val (.int u2), .val (.int en), .val (.int i), .val (.int j210_3_144_143_5), .val (.int (3 : Int32)), .val (.int (144 : Int32)), .val (.int (143 : Int32)), .val (.int j210_3_144_143_9), sl10] [(.int (143 : Int32)), (.int j210_3_144_143_9)])) _
              exact k
            by_cases hc221 : (143 : Int32) < j210_3_144_143_9
            · refine own_end X Bd.notSynchronized (v := some (.int (0 : Int32))) (fun h => by rw [Bd.returns] at h; cases h) (fun fs hr => ?_) eT ?_ (by decide) (by decide)
              · show Steps p.tables e below (T.setTop (mkF m 221 #[.val (.ref b1), .val (.int u1), .val (.int u2), .val (.int en), .val (.int i), .val (.int j210_3_144_143_5), .val (.int (3 : Int32)), .val (.int (144 : Int32)), .val (.int (143 : Int32)), .val (.int j210_3_144_143_9), sl10] [(.int (143 : Int32)), (.int j210_3_144_143_9)])) _
                refine XS.icmpNo X.here hx rfl (hb hby d4_221) rfl (tlt hc221).2.2.2 ?_
                show Steps p.tables e below (T.setTop (mkF m 224 #[.val (.ref b1), .val (.int u1), .val (.int u2), .val (.int en), .val (.int i), .val (.int j210_3_144_143_5), .val (.int (3 : Int32)), .val (.int (144 : Int32)), .val (.int (143 : Int32)), .val (.int j210_3_144_143_9), sl10] [])) _
                refine XS.iconst X.here hx rfl (hb hby d4_224) ?_
                show Steps p.tables e below (T.setTop (mkF m 225 #[.val (.ref b1), .val (.int u1), .val (.int u2), .val (.int en), .val (.int i), .val (.int j210_3_144_143_5), .val (.int (3 : Int32)), .val (.int (144 : Int32)), .val (.int (143 : Int32)), .val (.int j210_3_144_143_9), sl10] [(.int (0 : Int32))])) _
                exact retN X hx (t := .boolean) Bd.returns (by simp) (hb hby d4_225) hr
              · exact ⟨by rw [hu, own_u8A, if_pos hc10, if_pos (show own_ch_0 f_b1 en i = (0 : Int32) by rw [hv, own_ch_210_3_144_143, if_neg hc214, if_pos hc221])], N, rfl⟩
            · refine own_go (b := T.setTop (mkF m 226 #[.val (.ref b1), .val (.int u1), .val (.int u2), .val (.int en), .val (.int i), .val (.int j210_3_144_143_5), .val (.int (3 : Int32)), .val (.int (144 : Int32)), .val (.int (143 : Int32)), .val (.int j210_3_144_143_9), sl10] [])) (fun t k => ?_) ?_
              · show Steps p.tables e below (T.setTop (mkF m 221 #[.val (.ref b1), .val (.int u1), .val (.int u2), .val (.int en), .val (.int i), .val (.int j210_3_144_143_5), .val (.int (3 : Int32)), .val (.int (144 : Int32)), .val (.int (143 : Int32)), .val (.int j210_3_144_143_9), sl10] [(.int (143 : Int32)), (.int j210_3_144_143_9)])) _
                refine XS.icmpYes X.here hx rfl (pc0 := 221) (pc' := 226) rfl (hb hby d4_221) rfl (flt hc221).2.2.2 (by decide) (by decide) ?_
                show Steps p.tables e below (T.setTop (mkF m 226 #[.val (.ref b1), .val (.int u1), .val (.int u2), .val (.int en), .val (.int i), .val (.int j210_3_144_143_5), .val (.int (3 : Int32)), .val (.int (144 : Int32)), .val (.int (143 : Int32)), .val (.int j210_3_144_143_9), sl10] [])) _
                exact k
              exact J226_3 T _ X N eT j210_3_144_143_5 (144 : Int32) (143 : Int32) j210_3_144_143_9  (by assumption) (by rw [hv, own_ch_210_3_144_143, if_neg hc214, if_neg hc221])
        have J210_3_128_191 : ∀ (T : State) (lc : List Loc), Stand p l e ({ frames := 0, cells := 0, slots := 0, locals := 0 } : Room) s m #[(.ref b1), (.int u1), (.int u2)] below meth c T lc 0 0 → Fr n0 lc → T.heap = h0 → ∀ (j210_3_128_191_5 : Int32) (j210_3_128_191_9 : Int32), (3 : Int32) < (en - i) → own_ch_0 f_b1 en i = own_ch_210_3_128_191 f_b1 en i j210_3_128_191_5 j210_3_128_191_9 → own_Go p e below s (Q4 b1 cl_b1 f_b1 z_b1 u1 u2 h0 n0) ({ frames := 0, cells := 0, slots := 0, locals := 0 } : Room).cells ({ frames := 0, cells := 0, slots := 0, locals := 0 } : Room).slots (T.setTop (mkF m 210 #[.val (.ref b1), .val (.int u1), .val (.int u2), .val (.int en), .val (.int i), .val (.int j210_3_128_191_5), .val (.int (3 : Int32)), .val (.int (128 : Int32)), .val (.int (191 : Int32)), .val (.int j210_3_128_191_9), sl10] [])) := by
          intro T lc X N eT j210_3_128_191_5 j210_3_128_191_9  hc193 hv
          refine own_go (b := T.setTop (mkF m 214 #[.val (.ref b1), .val (.int u1), .val (.int u2), .val (.int en), .val (.int i), .val (.int j210_3_128_191_5), .val (.int (3 : Int32)), .val (.int (128 : Int32)), .val (.int (191 : Int32)), .val (.int j210_3_128_191_9), sl10] [(.int (128 : Int32)), (.int j210_3_128_191_9)])) (fun t k => ?_) ?_
          · show Steps p.tables e below (T.setTop (mkF m 210 #[.val (.ref b1), .val (.int u1), .val (.int u2), .val (.int en), .val (.int i), .val (.int j210_3_128_191_5), .val (.int (3 : Int32)), .val (.int (128 : Int32)), .val (.int (191 : Int32)), .val (.int j210_3_128_191_9), sl10] [])) _
            refine XS.iload X.here hx rfl (hb hby d4_210) rfl ?_
            show Steps p.tables e below (T.setTop (mkF m 212 #[.val (.ref b1), .val (.int u1), .val (.int u2), .val (.int en), .val (.int i), .val (.int j210_3_128_191_5), .val (.int (3 : Int32)), .val (.int (128 : Int32)), .val (.int (191 : Int32)), .val (.int j210_3_128_191_9), sl10] [(.int j210_3_128_191_9)])) _
            refine XS.iload X.here hx rfl (hb hby d4_212) rfl ?_
            show Steps p.tables e below (T.setTop (mkF m 214 #[.val (.ref b1), .val (.int u1), .val (.int u2), .val (.int en), .val (.int i), .val (.int j210_3_128_191_5), .val (.int (3 : Int32)), .val (.int (128 : Int32)), .val (.int (191 : Int32)), .val (.int j210_3_128_191_9), sl10] [(.int (128 : Int32)), (.int j210_3_128_191_9)])) _
            exact k
          by_cases hc214 : j210_3_128_191_9 < (128 : Int32)
          · refine own_end X Bd.notSynchronized (v := some (.int (0 : Int32))) (fun h => by rw [Bd.returns] at h; cases h) (fun fs hr => ?_) eT ?_ (by decide) (by decide)
            · show Steps p.tables e below (T.setTop (mkF m 214 #[.val (.ref b1), .val (.int u1), .val (.int u2), .val (.int en), .val (.int i), .val (.int j210_3_128_191_5), .val (.int (3 : Int32)), .val (.int (128 : Int32)), .val (.int (191 : Int32)), .val (.int j210_3_128_191_9), sl10] [(.int (128 : Int32)), (.int j210_3_128_191_9)])) _
              refine XS.icmpYes X.here hx rfl (pc0 := 214) (pc' := 224) rfl (hb hby d4_214) rfl (tlt hc214).1 (by decide) (by decide) ?_
              show Steps p.tables e below (T.setTop (mkF m 224 #[.val (.ref b1), .val (.int u1), .val (.int u2), .val (.int en), .val (.int i), .val (.int j210_3_128_191_5), .val (.int (3 : Int32)), .val (.int (128 : Int32)), .val (.int (191 : Int32)), .val (.int j210_3_128_191_9), sl10] [])) _
              refine XS.iconst X.here hx rfl (hb hby d4_224) ?_
              show Steps p.tables e below (T.setTop (mkF m 225 #[.val (.ref b1), .val (.int u1), .val (.int u2), .val (.int en), .val (.int i), .val (.int j210_3_128_191_5), .val (.int (3 : Int32)), .val (.int (128 : Int32)), .val (.int (191 : Int32)), .val (.int j210_3_128_191_9), sl10] [(.int (0 : Int32))])) _
              exact retN X hx (t := .boolean) Bd.returns (by simp) (hb hby d4_225) hr
            · exact ⟨by rw [hu, own_u8A, if_pos hc10, if_pos (show own_ch_0 f_b1 en i = (0 : Int32) by rw [hv, own_ch_210_3_128_191, if_pos hc214])], N, rfl⟩
          · refine own_go (b := T.setTop (mkF m 221 #[.val (.ref b1), .val (.int u1), .val (.int u2), .val (.int en), .val (.int i), .val (.int j210_3_128_191_5), .val (.int (3 : Int32)), .val (.int (128 : Int32)), .val (.int (191 : Int32)), .val (.int j210_3_128_191_9), sl10] [(.int (191 : Int32)), (.int j210_3_128_191_9)])) (fun t k => ?_) ?_
            · show Steps p.tables e below (T.setTop (mkF m 214 #[.val (.ref b1), .val (.int u1), .val (.int u2), .val (.int en), .val (.int i), .val (.int j210_3_128_191_5), .val (.int (3 : Int32)), .val (.int (128 : Int32)), .val (.int (191 : Int32)), .val (.int j210_3_128_191_9), sl10] [(.int (128 : Int32)), (.int j210_3_128_191_9)])) _
              refine XS.icmpNo X.here hx rfl (hb hby d4_214) rfl (flt hc214).1 ?_
              show Steps p.tables e below (T.setTop (mkF m 217 #[.val (.ref b1), .val (.int u1), .val (.int u2), .val (.int en), .val (.int i), .val (.int j210_3_128_191_5), .val (.int (3 : Int32)), .val (.int (128 : Int32)), .val (.int (191 : Int32)), .val (.int j210_3_128_191_9), sl10] [])) _
              refine XS.iload X.here hx rfl (hb hby d4_217) rfl ?_
              show Steps p.tables e below (T.setTop (mkF m 219 #[.val (.ref b1), .val (.int u1), .val (.int u2), .val (.int en), .val (.int i), .val (.int j210_3_128_191_5), .val (.int (3 : Int32)), .val (.int (128 : Int32)), .val (.int (191 : Int32)), .val (.int j210_3_128_191_9), sl10] [(.int j210_3_128_191_9)])) _
              refine XS.iload X.here hx rfl (hb hby d4_219) rfl ?_
              show Steps p.tables e below (T.setTop (mkF m 221 #[.val (.ref b1), .val (.int u1), .val (.int u2), .val (.int en), .val (.int i), .val (.int j210_3_128_191_5), .val (.int (3 : Int32)), .val (.int (128 : Int32)), .val (.int (191 : Int32)), .val (.int j210_3_128_191_9), sl10] [(.int (191 : Int32)), (.int j210_3_128_191_9)])) _
              exact k
            by_cases hc221 : (191 : Int32) < j210_3_128_191_9
            · refine own_end X Bd.notSynchronized (v := some (.int (0 : Int32))) (fun h => by rw [Bd.returns] at h; cases h) (fun fs hr => ?_) eT ?_ (by decide) (by decide)
              · show Steps p.tables e below (T.setTop (mkF m 221 #[.val (.ref b1), .val (.int u1), .val (.int u2), .val (.int en), .val (.int i), .val (.int j210_3_128_191_5), .val (.int (3 : Int32)), .val (.int (128 : Int32)), .val (.int (191 : Int32)), .val (.int j210_3_128_191_9), sl10] [(.int (191 : Int32)), (.int j210_3_128_191_9)])) _
                refine XS.icmpNo X.here hx rfl (hb hby d4_221) rfl (tlt hc221).2.2.2 ?_
                show Steps p.tables e below (T.setTop (mkF m 224 #[.val (.ref b1), .val (.int u1), .val (.int u2), .val (.int en), .val (.int i), .val (.int j210_3_128_191_5), .val (.int (3 : Int32)), .val (.int (128 : Int32)), .val (.int (191 : Int32)), .val (.int j210_3_128_191_9), sl10] [])) _
                refine XS.iconst X.here hx rfl (hb hby d4_224) ?_
                show Steps p.tables e below (T.setTop (mkF m 225 #[.val (.ref b1), .val (.int u1), .val (.int u2), .val (.int en), .val (.int i), .val (.int j210_3_128_191_5), .val (.int (3 : Int32)), .val (.int (128 : Int32)), .val (.int (191 : Int32)), .val (.int j210_3_128_191_9), sl10] [(.int (0 : Int32))])) _
                exact retN X hx (t := .boolean) Bd.returns (by simp) (hb hby d4_225) hr
              · exact ⟨by rw [hu, own_u8A, if_pos hc10, if_pos (show own_ch_0 f_b1 en i = (0 : Int32) by rw [hv, own_ch_210_3_128_191, if_neg hc214, if_pos hc221])], N, rfl⟩
            · refine own_go (b := T.setTop (mkF m 226 #[.val (.ref b1), .val (.int u1), .val (.int u2), .val (.int en), .val (.int i), .val (.int j210_3_128_191_5), .val (.int (3 : Int32)), .val (.int (128 : Int32)), .val (.int (191 : Int32)), .val (.int j210_3_128_191_9), sl10] [])) (fun t k => ?_) ?_
              · show Steps p.tables e below (T.setTop (mkF m 221 #[.val (.ref b1), .val (.int u1), .val (.int u2), .val (.int en), .val (.int i), .val (.int j210_3_128_191_5), .val (.int (3 : Int32)), .val (.int (128 : Int32)), .val (.int (191 : Int32)), .val (.int j210_3_128_191_9), sl10] [(.int (191 : Int32)), (.int j210_3_128_191_9)])) _
                refine XS.icmpYes X.here hx rfl (pc0 := 221) (pc' := 226) rfl (hb hby d4_221) rfl (flt hc221).2.2.2 (by decide) (by decide) ?_
                show Steps p.tables e below (T.setTop (mkF m 226 #[.val (.ref b1), .val (.int u1), .val (.int u2), .val (.int en), .val (.int i), .val (.int j210_3_128_191_5), .val (.int (3 : Int32)), .val (.int (128 : Int32)), .val (.int (191 : Int32)), .val (.int j210_3_128_191_9), sl10] [])) _
                exact k
              exact J226_3 T _ X N eT j210_3_128_191_5 (128 : Int32) (191 : Int32) j210_3_128_191_9  (by assumption) (by rw [hv, own_ch_210_3_128_191, if_neg hc214, if_neg hc221])
        have J210_3_128_143 : ∀ (T : State) (lc : List Loc), Stand p l e ({ frames := 0, cells := 0, slots := 0, locals := 0 } : Room) s m #[(.ref b1), (.int u1), (.int u2)] below meth c T lc 0 0 → Fr n0 lc → T.heap = h0 → ∀ (j210_3_128_143_5 : Int32) (j210_3_128_143_9 : Int32), (3 : Int32) < (en - i) → own_ch_0 f_b1 en i = own_ch_210_3_128_143 f_b1 en i j210_3_128_143_5 j210_3_128_143_9 → own_Go p e below s (Q4 b1 cl_b1 f_b1 z_b1 u1 u2 h0 n0) ({ frames := 0, cells := 0, slots := 0, locals := 0 } : Room).cells ({ frames := 0, cells := 0, slots := 0, locals := 0 } : Room).slots (T.setTop (mkF m 210 #[.val (.ref b1), .val (.int u1), .val (.int u2), .val (.int en), .val (.int i), .val (.int j210_3_128_143_5), .val (.int (3 : Int32)), .val (.int (128 : Int32)), .val (.int (143 : Int32)), .val (.int j210_3_128_143_9), sl10] [])) := by
          intro T lc X N eT j210_3_128_143_5 j210_3_128_143_9  hc193 hv
          refine own_go (b := T.setTop (mkF m 214 #[.val (.ref b1), .val (.int u1), .val (.int u2), .val (.int en), .val (.int i), .val (.int j210_3_128_143_5), .val (.int (3 : Int32)), .val (.int (128 : Int32)), .val (.int (143 : Int32)), .val (.int j210_3_128_143_9), sl10] [(.int (128 : Int32)), (.int j210_3_128_143_9)])) (fun t k => ?_) ?_
          · show Steps p.tables e below (T.setTop (mkF m 210 #[.val (.ref b1), .val (.int u1), .val (.int u2), .val (.int en), .val (.int i), .val (.int j210_3_128_143_5), .val (.int (3 : Int32)), .val (.int (128 : Int32)), .val (.int (143 : Int32)), .val (.int j210_3_128_143_9), sl10] [])) _
            refine XS.iload X.here hx rfl (hb hby d4_210) rfl ?_
            show Steps p.tables e below (T.setTop (mkF m 212 #[.val (.ref b1), .val (.int u1), .val (.int u2), .val (.int en), .val (.int i), .val (.int j210_3_128_143_5), .val (.int (3 : Int32)), .val (.int (128 : Int32)), .val (.int (143 : Int32)), .val (.int j210_3_128_143_9), sl10] [(.int j210_3_128_143_9)])) _
            refine XS.iload X.here hx rfl (hb hby d4_212) rfl ?_
            show Steps p.tables e below (T.setTop (mkF m 214 #[.val (.ref b1), .val (.int u1), .val (.int u2), .val (.int en), .val (.int i), .val (.int j210_3_128_143_5), .val (.int (3 : Int32)), .val (.int (128 : Int32)), .val (.int (143 : Int32)), .val (.int j210_3_128_143_9), sl10] [(.int (128 : Int32)), (.int j210_3_128_143_9)])) _
            exact k
          by_cases hc214 : j210_3_128_143_9 < (128 : Int32)
          · refine own_end X Bd.notSynchronized (v := some (.int (0 : Int32))) (fun h => by rw [Bd.returns] at h; cases h) (fun fs hr => ?_) eT ?_ (by decide) (by decide)
            · show Steps p.tables e below (T.setTop (mkF m 214 #[.val (.ref b1), .val (.int u1), .val (.int u2), .val (.int en), .val (.int i), .val (.int j210_3_128_143_5), .val (.int (3 : Int32)), .val (.int (128 : Int32)), .val (.int (143 : Int32)), .val (.int j210_3_128_143_9), sl10] [(.int (128 : Int32)), (.int j210_3_128_143_9)])) _
              refine XS.icmpYes X.here hx rfl (pc0 := 214) (pc' := 224) rfl (hb hby d4_214) rfl (tlt hc214).1 (by decide) (by decide) ?_
              show Steps p.tables e below (T.setTop (mkF m 224 #[.val (.ref b1), .val (.int u1), .val (.int u2), .val (.int en), .val (.int i), .val (.int j210_3_128_143_5), .val (.int (3 : Int32)), .val (.int (128 : Int32)), .val (.int (143 : Int32)), .val (.int j210_3_128_143_9), sl10] [])) _
              refine XS.iconst X.here hx rfl (hb hby d4_224) ?_
              show Steps p.tables e below (T.setTop (mkF m 225 #[.val (.ref b1), .val (.int u1), .val (.int u2), .val (.int en), .val (.int i), .val (.int j210_3_128_143_5), .val (.int (3 : Int32)), .val (.int (128 : Int32)), .val (.int (143 : Int32)), .val (.int j210_3_128_143_9), sl10] [(.int (0 : Int32))])) _
              exact retN X hx (t := .boolean) Bd.returns (by simp) (hb hby d4_225) hr
            · exact ⟨by rw [hu, own_u8A, if_pos hc10, if_pos (show own_ch_0 f_b1 en i = (0 : Int32) by rw [hv, own_ch_210_3_128_143, if_pos hc214])], N, rfl⟩
          · refine own_go (b := T.setTop (mkF m 221 #[.val (.ref b1), .val (.int u1), .val (.int u2), .val (.int en), .val (.int i), .val (.int j210_3_128_143_5), .val (.int (3 : Int32)), .val (.int (128 : Int32)), .val (.int (143 : Int32)), .val (.int j210_3_128_143_9), sl10] [(.int (143 : Int32)), (.int j210_3_128_143_9)])) (fun t k => ?_) ?_
            · show Steps p.tables e below (T.setTop (mkF m 214 #[.val (.ref b1), .val (.int u1), .val (.int u2), .val (.int en), .val (.int i), .val (.int j210_3_128_143_5), .val (.int (3 : Int32)), .val (.int (128 : Int32)), .val (.int (143 : Int32)), .val (.int j210_3_128_143_9), sl10] [(.int (128 : Int32)), (.int j210_3_128_143_9)])) _
              refine XS.icmpNo X.here hx rfl (hb hby d4_214) rfl (flt hc214).1 ?_
              show Steps p.tables e below (T.setTop (mkF m 217 #[.val (.ref b1), .val (.int u1), .val (.int u2), .val (.int en), .val (.int i), .val (.int j210_3_128_143_5), .val (.int (3 : Int32)), .val (.int (128 : Int32)), .val (.int (143 : Int32)), .val (.int j210_3_128_143_9), sl10] [])) _
              refine XS.iload X.here hx rfl (hb hby d4_217) rfl ?_
              show Steps p.tables e below (T.setTop (mkF m 219 #[.val (.ref b1), .val (.int u1), .val (.int u2), .val (.int en), .val (.int i), .val (.int j210_3_128_143_5), .val (.int (3 : Int32)), .val (.int (128 : Int32)), .val (.int (143 : Int32)), .val (.int j210_3_128_143_9), sl10] [(.int j210_3_128_143_9)])) _
              refine XS.iload X.here hx rfl (hb hby d4_219) rfl ?_
              show Steps p.tables e below (T.setTop (mkF m 221 #[.val (.ref b1), .val (.int u1), .val (.int u2), .val (.int en), .val (.int i), .val (.int j210_3_128_143_5), .val (.int (3 : Int32)), .val (.int (128 : Int32)), .val (.int (143 : Int32)), .val (.int j210_3_128_143_9), sl10] [(.int (143 : Int32)), (.int j210_3_128_143_9)])) _
              exact k
            by_cases hc221 : (143 : Int32) < j210_3_128_143_9
            · refine own_end X Bd.notSynchronized (v := some (.int (0 : Int32))) (fun h => by rw [Bd.returns] at h; cases h) (fun fs hr => ?_) eT ?_ (by decide) (by decide)
              · show Steps p.tables e below (T.setTop (mkF m 221 #[.val (.ref b1), .val (.int u1), .val (.int u2), .val (.int en), .val (.int i), .val (.int j210_3_128_143_5), .val (.int (3 : Int32)), .val (.int (128 : Int32)), .val (.int (143 : Int32)), .val (.int j210_3_128_143_9), sl10] [(.int (143 : Int32)), (.int j210_3_128_143_9)])) _
                refine XS.icmpNo X.here hx rfl (hb hby d4_221) rfl (tlt hc221).2.2.2 ?_
                show Steps p.tables e below (T.setTop (mkF m 224 #[.val (.ref b1), .val (.int u1), .val (.int u2), .val (.int en), .val (.int i), .val (.int j210_3_128_143_5), .val (.int (3 : Int32)), .val (.int (128 : Int32)), .val (.int (143 : Int32)), .val (.int j210_3_128_143_9), sl10] [])) _
                refine XS.iconst X.here hx rfl (hb hby d4_224) ?_
                show Steps p.tables e below (T.setTop (mkF m 225 #[.val (.ref b1), .val (.int u1), .val (.int u2), .val (.int en), .val (.int i), .val (.int j210_3_128_143_5), .val (.int (3 : Int32)), .val (.int (128 : Int32)), .val (.int (143 : Int32)), .val (.int j210_3_128_143_9), sl10] [(.int (0 : Int32))])) _
                exact retN X hx (t := .boolean) Bd.returns (by simp) (hb hby d4_225) hr
              · exact ⟨by rw [hu, own_u8A, if_pos hc10, if_pos (show own_ch_0 f_b1 en i = (0 : Int32) by rw [hv, own_ch_210_3_128_143, if_neg hc214, if_pos hc221])], N, rfl⟩
            · refine own_go (b := T.setTop (mkF m 226 #[.val (.ref b1), .val (.int u1), .val (.int u2), .val (.int en), .val (.int i), .val (.int j210_3_128_143_5), .val (.int (3 : Int32)), .val (.int (128 : Int32)), .val (.int (143 : Int32)), .val (.int j210_3_128_143_9), sl10] [])) (fun t k => ?_) ?_
              · show Steps p.tables e below (T.setTop (mkF m 221 #[.val (.ref b1), .val (.int u1), .val (.int u2), .val (.int en), .val (.int i), .val (.int j210_3_128_143_5), .val (.int (3 : Int32)), .val (.int (128 : Int32)), .val (.int (143 : Int32)), .val (.int j210_3_128_143_9), sl10] [(.int (143 : Int32)), (.int j210_3_128_143_9)])) _
                refine XS.icmpYes X.here hx rfl (pc0 := 221) (pc' := 226) rfl (hb hby d4_221) rfl (flt hc221).2.2.2 (by decide) (by decide) ?_
                show Steps p.tables e below (T.setTop (mkF m 226 #[.val (.ref b1), .val (.int u1), .val (.int u2), .val (.int en), .val (.int i), .val (.int j210_3_128_143_5), .val (.int (3 : Int32)), .val (.int (128 : Int32)), .val (.int (143 : Int32)), .val (.int j210_3_128_143_9), sl10] [])) _
                exact k
              exact J226_3 T _ X N eT j210_3_128_143_5 (128 : Int32) (143 : Int32) j210_3_128_143_9  (by assumption) (by rw [hv, own_ch_210_3_128_143, if_neg hc214, if_neg hc221])
        have J210_2_160_191 : ∀ (T : State) (lc : List Loc), Stand p l e ({ frames := 0, cells := 0, slots := 0, locals := 0 } : Room) s m #[(.ref b1), (.int u1), (.int u2)] below meth c T lc 0 0 → Fr n0 lc → T.heap = h0 → ∀ (j210_2_160_191_5 : Int32) (j210_2_160_191_9 : Int32), (2 : Int32) < (en - i) → own_ch_0 f_b1 en i = own_ch_210_2_160_191 f_b1 en i j210_2_160_191_5 j210_2_160_191_9 → own_Go p e below s (Q4 b1 cl_b1 f_b1 z_b1 u1 u2 h0 n0) ({ frames := 0, cells := 0, slots := 0, locals := 0 } : Room).cells ({ frames := 0, cells := 0, slots := 0, locals := 0 } : Room).slots (T.setTop (mkF m 210 #[.val (.ref b1), .val (.int u1), .val (.int u2), .val (.int en), .val (.int i), .val (.int j210_2_160_191_5), .val (.int (2 : Int32)), .val (.int (160 : Int32)), .val (.int (191 : Int32)), .val (.int j210_2_160_191_9), sl10] [])) := by
          intro T lc X N eT j210_2_160_191_5 j210_2_160_191_9  hc193 hv
          refine own_go (b := T.setTop (mkF m 214 #[.val (.ref b1), .val (.int u1), .val (.int u2), .val (.int en), .val (.int i), .val (.int j210_2_160_191_5), .val (.int (2 : Int32)), .val (.int (160 : Int32)), .val (.int (191 : Int32)), .val (.int j210_2_160_191_9), sl10] [(.int (160 : Int32)), (.int j210_2_160_191_9)])) (fun t k => ?_) ?_
          · show Steps p.tables e below (T.setTop (mkF m 210 #[.val (.ref b1), .val (.int u1), .val (.int u2), .val (.int en), .val (.int i), .val (.int j210_2_160_191_5), .val (.int (2 : Int32)), .val (.int (160 : Int32)), .val (.int (191 : Int32)), .val (.int j210_2_160_191_9), sl10] [])) _
            refine XS.iload X.here hx rfl (hb hby d4_210) rfl ?_
            show Steps p.tables e below (T.setTop (mkF m 212 #[.val (.ref b1), .val (.int u1), .val (.int u2), .val (.int en), .val (.int i), .val (.int j210_2_160_191_5), .val (.int (2 : Int32)), .val (.int (160 : Int32)), .val (.int (191 : Int32)), .val (.int j210_2_160_191_9), sl10] [(.int j210_2_160_191_9)])) _
            refine XS.iload X.here hx rfl (hb hby d4_212) rfl ?_
            show Steps p.tables e below (T.setTop (mkF m 214 #[.val (.ref b1), .val (.int u1), .val (.int u2), .val (.int en), .val (.int i), .val (.int j210_2_160_191_5), .val (.int (2 : Int32)), .val (.int (160 : Int32)), .val (.int (191 : Int32)), .val (.int j210_2_160_191_9), sl10] [(.int (160 : Int32)), (.int j210_2_160_191_9)])) _
            exact k
          by_cases hc214 : j210_2_160_191_9 < (160 : Int32)
          · refine own_end X Bd.notSynchronized (v := some (.int (0 : Int32))) (fun h => by rw [Bd.returns] at h; cases h) (fun fs hr => ?_) eT ?_ (by decide) (by decide)
            · show Steps p.tables e below (T.setTop (mkF m 214 #[.val (.ref b1), .val (.int u1), .val (.int u2), .val (.int en), .val (.int i), .val (.int j210_2_160_191_5), .val (.int (2 : Int32)), .val (.int (160 : Int32)), .val (.int (191 : Int32)), .val (.int j210_2_160_191_9), sl10] [(.int (160 : Int32)), (.int j210_2_160_191_9)])) _
              refine XS.icmpYes X.here hx rfl (pc0 := 214) (pc' := 224) rfl (hb hby d4_214) rfl (tlt hc214).1 (by decide) (by decide) ?_
              show Steps p.tables e below (T.setTop (mkF m 224 #[.val (.ref b1), .val (.int u1), .val (.int u2), .val (.int en), .val (.int i), .val (.int j210_2_160_191_5), .val (.int (2 : Int32)), .val (.int (160 : Int32)), .val (.int (191 : Int32)), .val (.int j210_2_160_191_9), sl10] [])) _
              refine XS.iconst X.here hx rfl (hb hby d4_224) ?_
              show Steps p.tables e below (T.setTop (mkF m 225 #[.val (.ref b1), .val (.int u1), .val (.int u2), .val (.int en), .val (.int i), .val (.int j210_2_160_191_5), .val (.int (2 : Int32)), .val (.int (160 : Int32)), .val (.int (191 : Int32)), .val (.int j210_2_160_191_9), sl10] [(.int (0 : Int32))])) _
              exact retN X hx (t := .boolean) Bd.returns (by simp) (hb hby d4_225) hr
            · exact ⟨by rw [hu, own_u8A, if_pos hc10, if_pos (show own_ch_0 f_b1 en i = (0 : Int32) by rw [hv, own_ch_210_2_160_191, if_pos hc214])], N, rfl⟩
          · refine own_go (b := T.setTop (mkF m 221 #[.val (.ref b1), .val (.int u1), .val (.int u2), .val (.int en), .val (.int i), .val (.int j210_2_160_191_5), .val (.int (2 : Int32)), .val (.int (160 : Int32)), .val (.int (191 : Int32)), .val (.int j210_2_160_191_9), sl10] [(.int (191 : Int32)), (.int j210_2_160_191_9)])) (fun t k => ?_) ?_
            · show Steps p.tables e below (T.setTop (mkF m 214 #[.val (.ref b1), .val (.int u1), .val (.int u2), .val (.int en), .val (.int i), .val (.int j210_2_160_191_5), .val (.int (2 : Int32)), .val (.int (160 : Int32)), .val (.int (191 : Int32)), .val (.int j210_2_160_191_9), sl10] [(.int (160 : Int32)), (.int j210_2_160_191_9)])) _
              refine XS.icmpNo X.here hx rfl (hb hby d4_214) rfl (flt hc214).1 ?_
              show Steps p.tables e below (T.setTop (mkF m 217 #[.val (.ref b1), .val (.int u1), .val (.int u2), .val (.int en), .val (.int i), .val (.int j210_2_160_191_5), .val (.int (2 : Int32)), .val (.int (160 : Int32)), .val (.int (191 : Int32)), .val (.int j210_2_160_191_9), sl10] [])) _
              refine XS.iload X.here hx rfl (hb hby d4_217) rfl ?_
              show Steps p.tables e below (T.setTop (mkF m 219 #[.val (.ref b1), .val (.int u1), .val (.int u2), .val (.int en), .val (.int i), .val (.int j210_2_160_191_5), .val (.int (2 : Int32)), .val (.int (160 : Int32)), .val (.int (191 : Int32)), .val (.int j210_2_160_191_9), sl10] [(.int j210_2_160_191_9)])) _
              refine XS.iload X.here hx rfl (hb hby d4_219) rfl ?_
              show Steps p.tables e below (T.setTop (mkF m 221 #[.val (.ref b1), .val (.int u1), .val (.int u2), .val (.int en), .val (.int i), .val (.int j210_2_160_191_5), .val (.int (2 : Int32)), .val (.int (160 : Int32)), .val (.int (191 : Int32)), .val (.int j210_2_160_191_9), sl10] [(.int (191 : Int32)), (.int j210_2_160_191_9)])) _
              exact k
            by_cases hc221 : (191 : Int32) < j210_2_160_191_9
            · refine own_end X Bd.notSynchronized (v := some (.int (0 : Int32))) (fun h => by rw [Bd.returns] at h; cases h) (fun fs hr => ?_) eT ?_ (by decide) (by decide)
              · show Steps p.tables e below (T.setTop (mkF m 221 #[.val (.ref b1), .val (.int u1), .val (.int u2), .val (.int en), .val (.int i), .val (.int j210_2_160_191_5), .val (.int (2 : Int32)), .val (.int (160 : Int32)), .val (.int (191 : Int32)), .val (.int j210_2_160_191_9), sl10] [(.int (191 : Int32)), (.int j210_2_160_191_9)])) _
                refine XS.icmpNo X.here hx rfl (hb hby d4_221) rfl (tlt hc221).2.2.2 ?_
                show Steps p.tables e below (T.setTop (mkF m 224 #[.val (.ref b1), .val (.int u1), .val (.int u2), .val (.int en), .val (.int i), .val (.int j210_2_160_191_5), .val (.int (2 : Int32)), .val (.int (160 : Int32)), .val (.int (191 : Int32)), .val (.int j210_2_160_191_9), sl10] [])) _
                refine XS.iconst X.here hx rfl (hb hby d4_224) ?_
                show Steps p.tables e below (T.setTop (mkF m 225 #[.val (.ref b1), .val (.int u1), .val (.int u2), .val (.int en), .val (.int i), .val (.int j210_2_160_191_5), .val (.int (2 : Int32)), .val (.int (160 : Int32)), .val (.int (191 : Int32)), .val (.int j210_2_160_191_9), sl10] [(.int (0 : Int32))])) _
                exact retN X hx (t := .boolean) Bd.returns (by simp) (hb hby d4_225) hr
              · exact ⟨by rw [hu, own_u8A, if_pos hc10, if_pos (show own_ch_0 f_b1 en i = (0 : Int32) by rw [hv, own_ch_210_2_160_191, if_neg hc214, if_pos hc221])], N, rfl⟩
            · refine own_go (b := T.setTop (mkF m 226 #[.val (.ref b1), .val (.int u1), .val (.int u2), .val (.int en), .val (.int i), .val (.int j210_2_160_191_5), .val (.int (2 : Int32)), .val (.int (160 : Int32)), .val (.int (191 : Int32)), .val (.int j210_2_160_191_9), sl10] [])) (fun t k => ?_) ?_
              · show Steps p.tables e below (T.setTop (mkF m 221 #[.val (.ref b1), .val (.int u1), .val (.int u2), .val (.int en), .val (.int i), .val (.int j210_2_160_191_5), .val (.int (2 : Int32)), .val (.int (160 : Int32)), .val (.int (191 : Int32)), .val (.int j210_2_160_191_9), sl10] [(.int (191 : Int32)), (.int j210_2_160_191_9)])) _
                refine XS.icmpYes X.here hx rfl (pc0 := 221) (pc' := 226) rfl (hb hby d4_221) rfl (flt hc221).2.2.2 (by decide) (by decide) ?_
                show Steps p.tables e below (T.setTop (mkF m 226 #[.val (.ref b1), .val (.int u1), .val (.int u2), .val (.int en), .val (.int i), .val (.int j210_2_160_191_5), .val (.int (2 : Int32)), .val (.int (160 : Int32)), .val (.int (191 : Int32)), .val (.int j210_2_160_191_9), sl10] [])) _
                exact k
              exact J226_2 T _ X N eT j210_2_160_191_5 (160 : Int32) (191 : Int32) j210_2_160_191_9  (by assumption) (by rw [hv, own_ch_210_2_160_191, if_neg hc214, if_neg hc221])
        have J210_2_160_159 : ∀ (T : State) (lc : List Loc), Stand p l e ({ frames := 0, cells := 0, slots := 0, locals := 0 } : Room) s m #[(.ref b1), (.int u1), (.int u2)] below meth c T lc 0 0 → Fr n0 lc → T.heap = h0 → ∀ (j210_2_160_159_5 : Int32) (j210_2_160_159_9 : Int32), (2 : Int32) < (en - i) → own_ch_0 f_b1 en i = own_ch_210_2_160_159 f_b1 en i j210_2_160_159_5 j210_2_160_159_9 → own_Go p e below s (Q4 b1 cl_b1 f_b1 z_b1 u1 u2 h0 n0) ({ frames := 0, cells := 0, slots := 0, locals := 0 } : Room).cells ({ frames := 0, cells := 0, slots := 0, locals := 0 } : Room).slots (T.setTop (mkF m 210 #[.val (.ref b1), .val (.int u1), .val (.int u2), .val (.int en), .val (.int i), .val (.int j210_2_160_159_5), .val (.int (2 : Int32)), .val (.int (160 : Int32)), .val (.int (159 : Int32)), .val (.int j210_2_160_159_9), sl10] [])) := by
          intro T lc X N eT j210_2_160_159_5 j210_2_160_159_9  hc193 hv
          refine own_go (b := T.setTop (mkF m 214 #[.val (.ref b1), .val (.int u1), .val (.int u2), .val (.int en), .val (.int i), .val (.int j210_2_160_159_5), .val (.int (2 : Int32)), .val (.int (160 : Int32)), .val (.int (159 : Int32)), .val (.int j210_2_160_159_9), sl10] [(.int (160 : Int32)), (.int j210_2_160_159_9)])) (fun t k => ?_) ?_
          · show Steps p.tables e below (T.setTop (mkF m 210 #[.val (.ref b1), .val (.int u1), .val (.int u2), .val (.int en), .val (.int i), .val (.int j210_2_160_159_5), .val (.int (2 : Int32)), .val (.int (160 : Int32)), .val (.int (159 : Int32)), .val (.int j210_2_160_159_9), sl10] [])) _
            refine XS.iload X.here hx rfl (hb hby d4_210) rfl ?_
            show Steps p.tables e below (T.setTop (mkF m 212 #[.val (.ref b1), .val (.int u1), .val (.int u2), .val (.int en), .val (.int i), .val (.int j210_2_160_159_5), .val (.int (2 : Int32)), .val (.int (160 : Int32)), .val (.int (159 : Int32)), .val (.int j210_2_160_159_9), sl10] [(.int j210_2_160_159_9)])) _
            refine XS.iload X.here hx rfl (hb hby d4_212) rfl ?_
            show Steps p.tables e below (T.setTop (mkF m 214 #[.val (.ref b1), .val (.int u1), .val (.int u2), .val (.int en), .val (.int i), .val (.int j210_2_160_159_5), .val (.int (2 : Int32)), .val (.int (160 : Int32)), .val (.int (159 : Int32)), .val (.int j210_2_160_159_9), sl10] [(.int (160 : Int32)), (.int j210_2_160_159_9)])) _
            exact k
          by_cases hc214 : j210_2_160_159_9 < (160 : Int32)
          · refine own_end X Bd.notSynchronized (v := some (.int (0 : Int32))) (fun h => by rw [Bd.returns] at h; cases h) (fun fs hr => ?_) eT ?_ (by decide) (by decide)
            · show Steps p.tables e below (T.setTop (mkF m 214 #[.val (.ref b1), .val (.int u1), .val (.int u2), .val (.int en), .val (.int i), .val (.int j210_2_160_159_5), .val (.int (2 : Int32)), .val (.int (160 : Int32)), .val (.int (159 : Int32)), .val (.int j210_2_160_159_9), sl10] [(.int (160 : Int32)), (.int j210_2_160_159_9)])) _
              refine XS.icmpYes X.here hx rfl (pc0 := 214) (pc' := 224) rfl (hb hby d4_214) rfl (tlt hc214).1 (by decide) (by decide) ?_
              show Steps p.tables e below (T.setTop (mkF m 224 #[.val (.ref b1), .val (.int u1), .val (.int u2), .val (.int en), .val (.int i), .val (.int j210_2_160_159_5), .val (.int (2 : Int32)), .val (.int (160 : Int32)), .val (.int (159 : Int32)), .val (.int j210_2_160_159_9), sl10] [])) _
              refine XS.iconst X.here hx rfl (hb hby d4_224) ?_
              show Steps p.tables e below (T.setTop (mkF m 225 #[.val (.ref b1), .val (.int u1), .val (.int u2), .val (.int en), .val (.int i), .val (.int j210_2_160_159_5), .val (.int (2 : Int32)), .val (.int (160 : Int32)), .val (.int (159 : Int32)), .val (.int j210_2_160_159_9), sl10] [(.int (0 : Int32))])) _
              exact retN X hx (t := .boolean) Bd.returns (by simp) (hb hby d4_225) hr
            · exact ⟨by rw [hu, own_u8A, if_pos hc10, if_pos (show own_ch_0 f_b1 en i = (0 : Int32) by rw [hv, own_ch_210_2_160_159, if_pos hc214])], N, rfl⟩
          · refine own_go (b := T.setTop (mkF m 221 #[.val (.ref b1), .val (.int u1), .val (.int u2), .val (.int en), .val (.int i), .val (.int j210_2_160_159_5), .val (.int (2 : Int32)), .val (.int (160 : Int32)), .val (.int (159 : Int32)), .val (.int j210_2_160_159_9), sl10] [(.int (159 : Int32)), (.int j210_2_160_159_9)])) (fun t k => ?_) ?_
            · show Steps p.tables e below (T.setTop (mkF m 214 #[.val (.ref b1), .val (.int u1), .val (.int u2), .val (.int en), .val (.int i), .val (.int j210_2_160_159_5), .val (.int (2 : Int32)), .val (.int (160 : Int32)), .val (.int (159 : Int32)), .val (.int j210_2_160_159_9), sl10] [(.int (160 : Int32)), (.int j210_2_160_159_9)])) _
              refine XS.icmpNo X.here hx rfl (hb hby d4_214) rfl (flt hc214).1 ?_
              show Steps p.tables e below (T.setTop (mkF m 217 #[.val (.ref b1), .val (.int u1), .val (.int u2), .val (.int en), .val (.int i), .val (.int j210_2_160_159_5), .val (.int (2 : Int32)), .val (.int (160 : Int32)), .val (.int (159 : Int32)), .val (.int j210_2_160_159_9), sl10] [])) _
              refine XS.iload X.here hx rfl (hb hby d4_217) rfl ?_
              show Steps p.tables e below (T.setTop (mkF m 219 #[.val (.ref b1), .val (.int u1), .val (.int u2), .val (.int en), .val (.int i), .val (.int j210_2_160_159_5), .val (.int (2 : Int32)), .val (.int (160 : Int32)), .val (.int (159 : Int32)), .val (.int j210_2_160_159_9), sl10] [(.int j210_2_160_159_9)])) _
              refine XS.iload X.here hx rfl (hb hby d4_219) rfl ?_
              show Steps p.tables e below (T.setTop (mkF m 221 #[.val (.ref b1), .val (.int u1), .val (.int u2), .val (.int en), .val (.int i), .val (.int j210_2_160_159_5), .val (.int (2 : Int32)), .val (.int (160 : Int32)), .val (.int (159 : Int32)), .val (.int j210_2_160_159_9), sl10] [(.int (159 : Int32)), (.int j210_2_160_159_9)])) _
              exact k
            by_cases hc221 : (159 : Int32) < j210_2_160_159_9
            · refine own_end X Bd.notSynchronized (v := some (.int (0 : Int32))) (fun h => by rw [Bd.returns] at h; cases h) (fun fs hr => ?_) eT ?_ (by decide) (by decide)
              · show Steps p.tables e below (T.setTop (mkF m 221 #[.val (.ref b1), .val (.int u1), .val (.int u2), .val (.int en), .val (.int i), .val (.int j210_2_160_159_5), .val (.int (2 : Int32)), .val (.int (160 : Int32)), .val (.int (159 : Int32)), .val (.int j210_2_160_159_9), sl10] [(.int (159 : Int32)), (.int j210_2_160_159_9)])) _
                refine XS.icmpNo X.here hx rfl (hb hby d4_221) rfl (tlt hc221).2.2.2 ?_
                show Steps p.tables e below (T.setTop (mkF m 224 #[.val (.ref b1), .val (.int u1), .val (.int u2), .val (.int en), .val (.int i), .val (.int j210_2_160_159_5), .val (.int (2 : Int32)), .val (.int (160 : Int32)), .val (.int (159 : Int32)), .val (.int j210_2_160_159_9), sl10] [])) _
                refine XS.iconst X.here hx rfl (hb hby d4_224) ?_
                show Steps p.tables e below (T.setTop (mkF m 225 #[.val (.ref b1), .val (.int u1), .val (.int u2), .val (.int en), .val (.int i), .val (.int j210_2_160_159_5), .val (.int (2 : Int32)), .val (.int (160 : Int32)), .val (.int (159 : Int32)), .val (.int j210_2_160_159_9), sl10] [(.int (0 : Int32))])) _
                exact retN X hx (t := .boolean) Bd.returns (by simp) (hb hby d4_225) hr
              · exact ⟨by rw [hu, own_u8A, if_pos hc10, if_pos (show own_ch_0 f_b1 en i = (0 : Int32) by rw [hv, own_ch_210_2_160_159, if_neg hc214, if_pos hc221])], N, rfl⟩
            · refine own_go (b := T.setTop (mkF m 226 #[.val (.ref b1), .val (.int u1), .val (.int u2), .val (.int en), .val (.int i), .val (.int j210_2_160_159_5), .val (.int (2 : Int32)), .val (.int (160 : Int32)), .val (.int (159 : Int32)), .val (.int j210_2_160_159_9), sl10] [])) (fun t k => ?_) ?_
              · show Steps p.tables e below (T.setTop (mkF m 221 #[.val (.ref b1), .val (.int u1), .val (.int u2), .val (.int en), .val (.int i), .val (.int j210_2_160_159_5), .val (.int (2 : Int32)), .val (.int (160 : Int32)), .val (.int (159 : Int32)), .val (.int j210_2_160_159_9), sl10] [(.int (159 : Int32)), (.int j210_2_160_159_9)])) _
                refine XS.icmpYes X.here hx rfl (pc0 := 221) (pc' := 226) rfl (hb hby d4_221) rfl (flt hc221).2.2.2 (by decide) (by decide) ?_
                show Steps p.tables e below (T.setTop (mkF m 226 #[.val (.ref b1), .val (.int u1), .val (.int u2), .val (.int en), .val (.int i), .val (.int j210_2_160_159_5), .val (.int (2 : Int32)), .val (.int (160 : Int32)), .val (.int (159 : Int32)), .val (.int j210_2_160_159_9), sl10] [])) _
                exact k
              exact J226_2 T _ X N eT j210_2_160_159_5 (160 : Int32) (159 : Int32) j210_2_160_159_9  (by assumption) (by rw [hv, own_ch_210_2_160_159, if_neg hc214, if_neg hc221])
        have J210_2_128_191 : ∀ (T : State) (lc : List Loc), Stand p l e ({ frames := 0, cells := 0, slots := 0, locals := 0 } : Room) s m #[(.ref b1), (.int u1), (.int u2)] below meth c T lc 0 0 → Fr n0 lc → T.heap = h0 → ∀ (j210_2_128_191_5 : Int32) (j210_2_128_191_9 : Int32), (2 : Int32) < (en - i) → own_ch_0 f_b1 en i = own_ch_210_2_128_191 f_b1 en i j210_2_128_191_5 j210_2_128_191_9 → own_Go p e below s (Q4 b1 cl_b1 f_b1 z_b1 u1 u2 h0 n0) ({ frames := 0, cells := 0, slots := 0, locals := 0 } : Room).cells ({ frames := 0, cells := 0, slots := 0, locals := 0 } : Room).slots (T.setTop (mkF m 210 #[.val (.ref b1), .val (.int u1), .val (.int u2), .val (.int en), .val (.int i), .val (.int j210_2_128_191_5), .val (.int (2 : Int32)), .val (.int (128 : Int32)), .val (.int (191 : Int32)), .val (.int j210_2_128_191_9), sl10] [])) := by
          intro T lc X N eT j210_2_128_191_5 j210_2_128_191_9  hc193 hv
          refine own_go (b := T.setTop (mkF m 214 #[.val (.ref b1), .val (.int u1), .val (.int u2), .val (.int en), .val (.int i), .val (.int j210_2_128_191_5), .val (.int (2 : Int32)), .val (.int (128 : Int32)), .val (.int (191 : Int32)), .val (.int j210_2_128_191_9), sl10] [(.int (128 : Int32)), (.int j210_2_128_191_9)])) (fun t k => ?_) ?_
          · show Steps p.tables e below (T.setTop (mkF m 210 #[.val (.ref b1), .val (.int u1), .val (.int u2), .val (.int en), .val (.int i), .val (.int j210_2_128_191_5), .val (.int (2 : Int32)), .val (.int (128 : Int32)), .val (.int (191 : Int32)), .val (.int j210_2_128_191_9), sl10] [])) _
            refine XS.iload X.here hx rfl (hb hby d4_210) rfl ?_
            show Steps p.tables e below (T.setTop (mkF m 212 #[.val (.ref b1), .val (.int u1), .val (.int u2), .val (.int en), .val (.int i), .val (.int j210_2_128_191_5), .val (.int (2 : Int32)), .val (.int (128 : Int32)), .val (.int (191 : Int32)), .val (.int j210_2_128_191_9), sl10] [(.int j210_2_128_191_9)])) _
            refine XS.iload X.here hx rfl (hb hby d4_212) rfl ?_
            show Steps p.tables e below (T.setTop (mkF m 214 #[.val (.ref b1), .val (.int u1), .val (.int u2), .val (.int en), .val (.int i), .val (.int j210_2_128_191_5), .val (.int (2 : Int32)), .val (.int (128 : Int32)), .val (.int (191 : Int32)), .val (.int j210_2_128_191_9), sl10] [(.int (128 : Int32)), (.int j210_2_128_191_9)])) _
            exact k
          by_cases hc214 : j210_2_128_191_9 < (128 : Int32)
          · refine own_end X Bd.notSynchronized (v := some (.int (0 : Int32))) (fun h => by rw [Bd.returns] at h; cases h) (fun fs hr => ?_) eT ?_ (by decide) (by decide)
            · show Steps p.tables e below (T.setTop (mkF m 214 #[.val (.ref b1), .val (.int u1), .val (.int u2), .val (.int en), .val (.int i), .val (.int j210_2_128_191_5), .val (.int (2 : Int32)), .val (.int (128 : Int32)), .val (.int (191 : Int32)), .val (.int j210_2_128_191_9), sl10] [(.int (128 : Int32)), (.int j210_2_128_191_9)])) _
              refine XS.icmpYes X.here hx rfl (pc0 := 214) (pc' := 224) rfl (hb hby d4_214) rfl (tlt hc214).1 (by decide) (by decide) ?_
              show Steps p.tables e below (T.setTop (mkF m 224 #[.val (.ref b1), .val (.int u1), .val (.int u2), .val (.int en), .val (.int i), .val (.int j210_2_128_191_5), .val (.int (2 : Int32)), .val (.int (128 : Int32)), .val (.int (191 : Int32)), .val (.int j210_2_128_191_9), sl10] [])) _
              refine XS.iconst X.here hx rfl (hb hby d4_224) ?_
              show Steps p.tables e below (T.setTop (mkF m 225 #[.val (.ref b1), .val (.int u1), .val (.int u2), .val (.int en), .val (.int i), .val (.int j210_2_128_191_5), .val (.int (2 : Int32)), .val (.int (128 : Int32)), .val (.int (191 : Int32)), .val (.int j210_2_128_191_9), sl10] [(.int (0 : Int32))])) _
              exact retN X hx (t := .boolean) Bd.returns (by simp) (hb hby d4_225) hr
            · exact ⟨by rw [hu, own_u8A, if_pos hc10, if_pos (show own_ch_0 f_b1 en i = (0 : Int32) by rw [hv, own_ch_210_2_128_191, if_pos hc214])], N, rfl⟩
          · refine own_go (b := T.setTop (mkF m 221 #[.val (.ref b1), .val (.int u1), .val (.int u2), .val (.int en), .val (.int i), .val (.int j210_2_128_191_5), .val (.int (2 : Int32)), .val (.int (128 : Int32)), .val (.int (191 : Int32)), .val (.int j210_2_128_191_9), sl10] [(.int (191 : Int32)), (.int j210_2_128_191_9)])) (fun t k => ?_) ?_
            · show Steps p.tables e below (T.setTop (mkF m 214 #[.val (.ref b1), .val (.int u1), .val (.int u2), .val (.int en), .val (.int i), .val (.int j210_2_128_191_5), .val (.int (2 : Int32)), .val (.int (128 : Int32)), .val (.int (191 : Int32)), .val (.int j210_2_128_191_9), sl10] [(.int (128 : Int32)), (.int j210_2_128_191_9)])) _
              refine XS.icmpNo X.here hx rfl (hb hby d4_214) rfl (flt hc214).1 ?_
              show Steps p.tables e below (T.setTop (mkF m 217 #[.val (.ref b1), .val (.int u1), .val (.int u2), .val (.int en), .val (.int i), .val (.int j210_2_128_191_5), .val (.int (2 : Int32)), .val (.int (128 : Int32)), .val (.int (191 : Int32)), .val (.int j210_2_128_191_9), sl10] [])) _
              refine XS.iload X.here hx rfl (hb hby d4_217) rfl ?_
              show Steps p.tables e below (T.setTop (mkF m 219 #[.val (.ref b1), .val (.int u1), .val (.int u2), .val (.int en), .val (.int i), .val (.int j210_2_128_191_5), .val (.int (2 : Int32)), .val (.int (128 : Int32)), .val (.int (191 : Int32)), .val (.int j210_2_128_191_9), sl10] [(.int j210_2_128_191_9)])) _
              refine XS.iload X.here hx rfl (hb hby d4_219) rfl ?_
              show Steps p.tables e below (T.setTop (mkF m 221 #[.val (.ref b1), .val (.int u1), .val (.int u2), .val (.int en), .val (.int i), .val (.int j210_2_128_191_5), .val (.int (2 : Int32)), .val (.int (128 : Int32)), .val (.int (191 : Int32)), .val (.int j210_2_128_191_9), sl10] [(.int (191 : Int32)), (.int j210_2_128_191_9)])) _
              exact k
            by_cases hc221 : (191 : Int32) < j210_2_128_191_9
            · refine own_end X Bd.notSynchronized (v := some (.int (0 : Int32))) (fun h => by rw [Bd.returns] at h; cases h) (fun fs hr => ?_) eT ?_ (by decide) (by decide)
              · show Steps p.tables e below (T.setTop (mkF m 221 #[.val (.ref b1), .val (.int u1), .val (.int u2), .val (.int en), .val (.int i), .val (.int j210_2_128_191_5), .val (.int (2 : Int32)), .val (.int (128 : Int32)), .val (.int (191 : Int32)), .val (.int j210_2_128_191_9), sl10] [(.int (191 : Int32)), (.int j210_2_128_191_9)])) _
                refine XS.icmpNo X.here hx rfl (hb hby d4_221) rfl (tlt hc221).2.2.2 ?_
                show Steps p.tables e below (T.setTop (mkF m 224 #[.val (.ref b1), .val (.int u1), .val (.int u2), .val (.int en), .val (.int i), .val (.int j210_2_128_191_5), .val (.int (2 : Int32)), .val (.int (128 : Int32)), .val (.int (191 : Int32)), .val (.int j210_2_128_191_9), sl10] [])) _
                refine XS.iconst X.here hx rfl (hb hby d4_224) ?_
                show Steps p.tables e below (T.setTop (mkF m 225 #[.val (.ref b1), .val (.int u1), .val (.int u2), .val (.int en), .val (.int i), .val (.int j210_2_128_191_5), .val (.int (2 : Int32)), .val (.int (128 : Int32)), .val (.int (191 : Int32)), .val (.int j210_2_128_191_9), sl10] [(.int (0 : Int32))])) _
                exact retN X hx (t := .boolean) Bd.returns (by simp) (hb hby d4_225) hr
              · exact ⟨by rw [hu, own_u8A, if_pos hc10, if_pos (show own_ch_0 f_b1 en i = (0 : Int32) by rw [hv, own_ch_210_2_128_191, if_neg hc214, if_pos hc221])], N, rfl⟩
            · refine own_go (b := T.setTop (mkF m 226 #[.val (.ref b1), .val (.int u1), .val (.int u2), .val (.int en), .val (.int i), .val (.int j210_2_128_191_5), .val (.int (2 : Int32)), .val (.int (128 : Int32)), .val (.int (191 : Int32)), .val (.int j210_2_128_191_9), sl10] [])) (fun t k => ?_) ?_
              · show Steps p.tables e below (T.setTop (mkF m 221 #[.val (.ref b1), .val (.int u1), .val (.int u2), .val (.int en), .val (.int i), .val (.int j210_2_128_191_5), .val (.int (2 : Int32)), .val (.int (128 : Int32)), .val (.int (191 : Int32)), .val (.int j210_2_128_191_9), sl10] [(.int (191 : Int32)), (.int j210_2_128_191_9)])) _
                refine XS.icmpYes X.here hx rfl (pc0 := 221) (pc' := 226) rfl (hb hby d4_221) rfl (flt hc221).2.2.2 (by decide) (by decide) ?_
                show Steps p.tables e below (T.setTop (mkF m 226 #[.val (.ref b1), .val (.int u1), .val (.int u2), .val (.int en), .val (.int i), .val (.int j210_2_128_191_5), .val (.int (2 : Int32)), .val (.int (128 : Int32)), .val (.int (191 : Int32)), .val (.int j210_2_128_191_9), sl10] [])) _
                exact k
              exact J226_2 T _ X N eT j210_2_128_191_5 (128 : Int32) (191 : Int32) j210_2_128_191_9  (by assumption) (by rw [hv, own_ch_210_2_128_191, if_neg hc214, if_neg hc221])
        have J210_2_128_159 : ∀ (T : State) (lc : List Loc), Stand p l e ({ frames := 0, cells := 0, slots := 0, locals := 0 } : Room) s m #[(.ref b1), (.int u1), (.int u2)] below meth c T lc 0 0 → Fr n0 lc → T.heap = h0 → ∀ (j210_2_128_159_5 : Int32) (j210_2_128_159_9 : Int32), (2 : Int32) < (en - i) → own_ch_0 f_b1 en i = own_ch_210_2_128_159 f_b1 en i j210_2_128_159_5 j210_2_128_159_9 → own_Go p e below s (Q4 b1 cl_b1 f_b1 z_b1 u1 u2 h0 n0) ({ frames := 0, cells := 0, slots := 0, locals := 0 } : Room).cells ({ frames := 0, cells := 0, slots := 0, locals := 0 } : Room).slots (T.setTop (mkF m 210 #[.val (.ref b1), .val (.int u1), .val (.int u2), .val (.int en), .val (.int i), .val (.int j210_2_128_159_5), .val (.int (2 : Int32)), .val (.int (128 : Int32)), .val (.int (159 : Int32)), .val (.int j210_2_128_159_9), sl10] [])) := by
          intro T lc X N eT j210_2_128_159_5 j210_2_128_159_9  hc193 hv
          refine own_go (b := T.setTop (mkF m 214 #[.val (.ref b1), .val (.int u1), .val (.int u2), .val (.int en), .val (.int i), .val (.int j210_2_128_159_5), .val (.int (2 : Int32)), .val (.int (128 : Int32)), .val (.int (159 : Int32)), .val (.int j210_2_128_159_9), sl10] [(.int (128 : Int32)), (.int j210_2_128_159_9)])) (fun t k => ?_) ?_
          · show Steps p.tables e below (T.setTop (mkF m 210 #[.val (.ref b1), .val (.int u1), .val (.int u2), .val (.int en), .val (.int i), .val (.int j210_2_128_159_5), .val (.int (2 : Int32)), .val (.int (128 : Int32)), .val (.int (159 : Int32)), .val (.int j210_2_128_159_9), sl10] [])) _
            refine XS.iload X.here hx rfl (hb hby d4_210) rfl ?_
            show Steps p.tables e below (T.setTop (mkF m 212 #[.val (.ref b1), .val (.int u1), .val (.int u2), .val (.int en), .val (.int i), .val (.int j210_2_128_159_5), .val (.int (2 : Int32)), .val (.int (128 : Int32)), .val (.int (159 : Int32)), .val (.int j210_2_128_159_9), sl10] [(.int j210_2_128_159_9)])) _
            refine XS.iload X.here hx rfl (hb hby d4_212) rfl ?_
            show Steps p.tables e below (T.setTop (mkF m 214 #[.val (.ref b1), .val (.int u1), .val (.int u2), .val (.int en), .val (.int i), .val (.int j210_2_128_159_5), .val (.int (2 : Int32)), .val (.int (128 : Int32)), .val (.int (159 : Int32)), .val (.int j210_2_128_159_9), sl10] [(.int (128 : Int32)), (.int j210_2_128_159_9)])) _
            exact k
          by_cases hc214 : j210_2_128_159_9 < (128 : Int32)
          · refine own_end X Bd.notSynchronized (v := some (.int (0 : Int32))) (fun h => by rw [Bd.returns] at h; cases h) (fun fs hr => ?_) eT ?_ (by decide) (by decide)
            · show Steps p.tables e below (T.setTop (mkF m 214 #[.val (.ref b1), .val (.int u1), .val (.int u2), .val (.int en), .val (.int i), .val (.int j210_2_128_159_5), .val (.int (2 : Int32)), .val (.int (128 : Int32)), .val (.int (159 : Int32)), .val (.int j210_2_128_159_9), sl10] [(.int (128 : Int32)), (.int j210_2_128_159_9)])) _
              refine XS.icmpYes X.here hx rfl (pc0 := 214) (pc' := 224) rfl (hb hby d4_214) rfl (tlt hc214).1 (by decide) (by decide) ?_
              show Steps p.tables e below (T.setTop (mkF m 224 #[.val (.ref b1), .val (.int u1), .val (.int u2), .val (.int en), .val (.int i), .val (.int j210_2_128_159_5), .val (.int (2 : Int32)), .val (.int (128 : Int32)), .val (.int (159 : Int32)), .val (.int j210_2_128_159_9), sl10] [])) _
              refine XS.iconst X.here hx rfl (hb hby d4_224) ?_
              show Steps p.tables e below (T.setTop (mkF m 225 #[.val (.ref b1), .val (.int u1), .val (.int u2), .val (.int en), .val (.int i), .val (.int j210_2_128_159_5), .val (.int (2 : Int32)), .val (.int (128 : Int32)), .val (.int (159 : Int32)), .val (.int j210_2_128_159_9), sl10] [(.int (0 : Int32))])) _
              exact retN X hx (t := .boolean) Bd.returns (by simp) (hb hby d4_225) hr
            · exact ⟨by rw [hu, own_u8A, if_pos hc10, if_pos (show own_ch_0 f_b1 en i = (0 : Int32) by rw [hv, own_ch_210_2_128_159, if_pos hc214])], N, rfl⟩
          · refine own_go (b := T.setTop (mkF m 221 #[.val (.ref b1), .val (.int u1), .val (.int u2), .val (.int en), .val (.int i), .val (.int j210_2_128_159_5), .val (.int (2 : Int32)), .val (.int (128 : Int32)), .val (.int (159 : Int32)), .val (.int j210_2_128_159_9), sl10] [(.int (159 : Int32)), (.int j210_2_128_159_9)])) (fun t k => ?_) ?_
            · show Steps p.tables e below (T.setTop (mkF m 214 #[.val (.ref b1), .val (.int u1), .val (.int u2), .val (.int en), .val (.int i), .val (.int j210_2_128_159_5), .val (.int (2 : Int32)), .val (.int (128 : Int32)), .val (.int (159 : Int32)), .val (.int j210_2_128_159_9), sl10] [(.int (128 : Int32)), (.int j210_2_128_159_9)])) _
              refine XS.icmpNo X.here hx rfl (hb hby d4_214) rfl (flt hc214).1 ?_
              show Steps p.tables e below (T.setTop (mkF m 217 #[.val (.ref b1), .val (.int u1), .val (.int u2), .val (.int en), .val (.int i), .val (.int j210_2_128_159_5), .val (.int (2 : Int32)), .val (.int (128 : Int32)), .val (.int (159 : Int32)), .val (.int j210_2_128_159_9), sl10] [])) _
              refine XS.iload X.here hx rfl (hb hby d4_217) rfl ?_
              show Steps p.tables e below (T.setTop (mkF m 219 #[.val (.ref b1), .val (.int u1), .val (.int u2), .val (.int en), .val (.int i), .val (.int j210_2_128_159_5), .val (.int (2 : Int32)), .val (.int (128 : Int32)), .val (.int (159 : Int32)), .val (.int j210_2_128_159_9), sl10] [(.int j210_2_128_159_9)])) _
              refine XS.iload X.here hx rfl (hb hby d4_219) rfl ?_
              show Steps p.tables e below (T.setTop (mkF m 221 #[.val (.ref b1), .val (.int u1), .val (.int u2), .val (.int en), .val (.int i), .val (.int j210_2_128_159_5), .val (.int (2 : Int32)), .val (.int (128 : Int32)), .val (.int (159 : Int32)), .val (.int j210_2_128_159_9), sl10] [(.int (159 : Int32)), (.int j210_2_128_159_9)])) _
              exact k
            by_cases hc221 : (159 : Int32) < j210_2_128_159_9
            · refine own_end X Bd.notSynchronized (v := some (.int (0 : Int32))) (fun h => by rw [Bd.returns] at h; cases h) (fun fs hr => ?_) eT ?_ (by decide) (by decide)
              · show Steps p.tables e below (T.setTop (mkF m 221 #[.val (.ref b1), .val (.int u1), .val (.int u2), .val (.int en), .val (.int i), .val (.int j210_2_128_159_5), .val (.int (2 : Int32)), .val (.int (128 : Int32)), .val (.int (159 : Int32)), .val (.int j210_2_128_159_9), sl10] [(.int (159 : Int32)), (.int j210_2_128_159_9)])) _
                refine XS.icmpNo X.here hx rfl (hb hby d4_221) rfl (tlt hc221).2.2.2 ?_
                show Steps p.tables e below (T.setTop (mkF m 224 #[.val (.ref b1), .val (.int u1), .val (.int u2), .val (.int en), .val (.int i), .val (.int j210_2_128_159_5), .val (.int (2 : Int32)), .val (.int (128 : Int32)), .val (.int (159 : Int32)), .val (.int j210_2_128_159_9), sl10] [])) _
                refine XS.iconst X.here hx rfl (hb hby d4_224) ?_
                show Steps p.tables e below (T.setTop (mkF m 225 #[.val (.ref b1), .val (.int u1), .val (.int u2), .val (.int en), .val (.int i), .val (.int j210_2_128_159_5), .val (.int (2 : Int32)), .val (.int (128 : Int32)), .val (.int (159 : Int32)), .val (.int j210_2_128_159_9), sl10] [(.int (0 : Int32))])) _
                exact retN X hx (t := .boolean) Bd.returns (by simp) (hb hby d4_225) hr
              · exact ⟨by rw [hu, own_u8A, if_pos hc10, if_pos (show own_ch_0 f_b1 en i = (0 : Int32) by rw [hv, own_ch_210_2_128_159, if_neg hc214, if_pos hc221])], N, rfl⟩
            · refine own_go (b := T.setTop (mkF m 226 #[.val (.ref b1), .val (.int u1), .val (.int u2), .val (.int en), .val (.int i), .val (.int j210_2_128_159_5), .val (.int (2 : Int32)), .val (.int (128 : Int32)), .val (.int (159 : Int32)), .val (.int j210_2_128_159_9), sl10] [])) (fun t k => ?_) ?_
              · show Steps p.tables e below (T.setTop (mkF m 221 #[.val (.ref b1), .val (.int u1), .val (.int u2), .val (.int en), .val (.int i), .val (.int j210_2_128_159_5), .val (.int (2 : Int32)), .val (.int (128 : Int32)), .val (.int (159 : Int32)), .val (.int j210_2_128_159_9), sl10] [(.int (159 : Int32)), (.int j210_2_128_159_9)])) _
                refine XS.icmpYes X.here hx rfl (pc0 := 221) (pc' := 226) rfl (hb hby d4_221) rfl (flt hc221).2.2.2 (by decide) (by decide) ?_
                show Steps p.tables e below (T.setTop (mkF m 226 #[.val (.ref b1), .val (.int u1), .val (.int u2), .val (.int en), .val (.int i), .val (.int j210_2_128_159_5), .val (.int (2 : Int32)), .val (.int (128 : Int32)), .val (.int (159 : Int32)), .val (.int j210_2_128_159_9), sl10] [])) _
                exact k
              exact J226_2 T _ X N eT j210_2_128_159_5 (128 : Int32) (159 : Int32) j210_2_128_159_9  (by assumption) (by rw [hv, own_ch_210_2_128_159, if_neg hc214, if_neg hc221])
        have J210_1_128_191 : ∀ (T : State) (lc : List Loc), Stand p l e ({ frames := 0, cells := 0, slots := 0, locals := 0 } : Room) s m #[(.ref b1), (.int u1), (.int u2)] below meth c T lc 0 0 → Fr n0 lc → T.heap = h0 → ∀ (j210_1_128_191_5 : Int32) (j210_1_128_191_9 : Int32), (1 : Int32) < (en - i) → own_ch_0 f_b1 en i = own_ch_210_1_128_191 f_b1 en i j210_1_128_191_5 j210_1_128_191_9 → own_Go p e below s (Q4 b1 cl_b1 f_b1 z_b1 u1 u2 h0 n0) ({ frames := 0, cells := 0, slots := 0, locals := 0 } : Room).cells ({ frames := 0, cells := 0, slots := 0, locals := 0 } : Room).slots (T.setTop (mkF m 210 #[.val (.ref b1), .val (.int u1), .val (.int u2), .val (.int en), .val (.int i), .val (.int j210_1_128_191_5), .val (.int (1 : Int32)), .val (.int (128 : Int32)), .val (.int (191 : Int32)), .val (.int j210_1_128_191_9), sl10] [])) := by
          intro T lc X N eT j210_1_128_191_5 j210_1_128_191_9  hc193 hv
          refine own_go (b := T.setTop (mkF m 214 #[.val (.ref b1), .val (.int u1), .val (.int u2), .val (.int en), .val (.int i), .val (.int j210_1_128_191_5), .val (.int (1 : Int32)), .val (.int (128 : Int32)), .val (.int (191 : Int32)), .val (.int j210_1_128_191_9), sl10] [(.int (128 : Int32)), (.int j210_1_128_191_9)])) (fun t k => ?_) ?_
          · show Steps p.tables e below (T.setTop (mkF m 210 #[.val (.ref b1), .val (.int u1), .val (.int u2), .val (.int en), .val (.int i), .val (.int j210_1_128_191_5), .val (.int (1 : Int32)), .val (.int (128 : Int32)), .val (.int (191 : Int32)), .val (.int j210_1_128_191_9), sl10] [])) _
            refine XS.iload X.here hx rfl (hb hby d4_210) rfl ?_
            show Steps p.tables e below (T.setTop (mkF m 212 #[.val (.ref b1), .val (.int u1), .val (.int u2), .val (.int en), .val (.int i), .val (.int j210_1_128_191_5), .val (.int (1 : Int32)), .val (.int (128 : Int32)), .val (.int (191 : Int32)), .val (.int j210_1_128_191_9), sl10] [(.int j210_1_128_191_9)])) _
            refine XS.iload X.here hx rfl (hb hby d4_212) rfl ?_
            show Steps p.tables e below (T.setTop (mkF m 214 #[.val (.ref b1), .val (.int u1), .val (.int u2), .val (.int en), .val (.int i), .val (.int j210_1_128_191_5), .val (.int (1 : Int32)), .val (.int (128 : Int32)), .val (.int (191 : Int32)), .val (.int j210_1_128_191_9), sl10] [(.int (128 : Int32)), (.int j210_1_128_191_9)])) _
            exact k
          by_cases hc214 : j210_1_128_191_9 < (128 : Int32)
          · refine own_end X Bd.notSynchronized (v := some (.int (0 : Int32))) (fun h => by rw [Bd.returns] at h; cases h) (fun fs hr => ?_) eT ?_ (by decide) (by decide)
            · show Steps p.tables e below (T.setTop (mkF m 214 #[.val (.ref b1), .val (.int u1), .val (.int u2), .val (.int en), .val (.int i), .val (.int j210_1_128_191_5), .val (.int (1 : Int32)), .val (.int (128 : Int32)), .val (.int (191 : Int32)), .val (.int j210_1_128_191_9), sl10] [(.int (128 : Int32)), (.int j210_1_128_191_9)])) _
              refine XS.icmpYes X.here hx rfl (pc0 := 214) (pc' := 224) rfl (hb hby d4_214) rfl (tlt hc214).1 (by decide) (by decide) ?_
              show Steps p.tables e below (T.setTop (mkF m 224 #[.val (.ref b1), .val (.int u1), .val (.int u2), .val (.int en), .val (.int i), .val (.int j210_1_128_191_5), .val (.int (1 : Int32)), .val (.int (128 : Int32)), .val (.int (191 : Int32)), .val (.int j210_1_128_191_9), sl10] [])) _
              refine XS.iconst X.here hx rfl (hb hby d4_224) ?_
              show Steps p.tables e below (T.setTop (mkF m 225 #[.val (.ref b1), .val (.int u1), .val (.int u2), .val (.int en), .val (.int i), .val (.int j210_1_128_191_5), .val (.int (1 : Int32)), .val (.int (128 : Int32)), .val (.int (191 : Int32)), .val (.int j210_1_128_191_9), sl10] [(.int (0 : Int32))])) _
              exact retN X hx (t := .boolean) Bd.returns (by simp) (hb hby d4_225) hr
            · exact ⟨by rw [hu, own_u8A, if_pos hc10, if_pos (show own_ch_0 f_b1 en i = (0 : Int32) by rw [hv, own_ch_210_1_128_191, if_pos hc214])], N, rfl⟩
          · refine own_go (b := T.setTop (mkF m 221 #[.val (.ref b1), .val (.int u1), .val (.int u2), .val (.int en), .val (.int i), .val (.int j210_1_128_191_5), .val (.int (1 : Int32)), .val (.int (128 : Int32)), .val (.int (191 : Int32)), .val (.int j210_1_128_191_9), sl10] [(.int (191 : Int32)), (.int j210_1_128_191_9)])) (fun t k => ?_) ?_
            · show Steps p.tables e below (T.setTop (mkF m 214 #[.val (.ref b1), .val (.int u1), .val (.int u2), .val (.int en), .val (.int i), .val (.int j210_1_128_191_5), .val (.int (1 : Int32)), .val (.int (128 : Int32)), .val (.int (191 : Int32)), .val (.int j210_1_128_191_9), sl10] [(.int (128 : Int32)), (.int j210_1_128_191_9)])) _
              refine XS.icmpNo X.here hx rfl (hb hby d4_214) rfl (flt hc214).1 ?_
              show Steps p.tables e below (T.setTop (mkF m 217 #[.val (.ref b1), .val (.int u1), .val (.int u2), .val (.int en), .val (.int i), .val (.int j210_1_128_191_5), .val (.int (1 : Int32)), .val (.int (128 : Int32)), .val (.int (191 : Int32)), .val (.int j210_1_128_191_9), sl10] [])) _
              refine XS.iload X.here hx rfl (hb hby d4_217) rfl ?_
              show Steps p.tables e below (T.setTop (mkF m 219 #[.val (.ref b1), .val (.int u1), .val (.int u2), .val (.int en), .val (.int i), .val (.int j210_1_128_191_5), .val (.int (1 : Int32)), .val (.int (128 : Int32)), .val (.int (191 : Int32)), .val (.int j210_1_128_191_9), sl10] [(.int j210_1_128_191_9)])) _
              refine XS.iload X.here hx rfl (hb hby d4_219) rfl ?_
              show Steps p.tables e below (T.setTop (mkF m 221 #[.val (.ref b1), .val (.int u1), .val (.int u2), .val (.int en), .val (.int i), .val (.int j210_1_128_191_5), .val (.int (1 : Int32)), .val (.int (128 : Int32)), .val (.int (191 : Int32)), .val (.int j210_1_128_191_9), sl10] [(.int (191 : Int32)), (.int j210_1_128_191_9)])) _
              exact k
            by_cases hc221 : (191 : Int32) < j210_1_128_191_9
            · refine own_end X Bd.notSynchronized (v := some (.int (0 : Int32))) (fun h => by rw [Bd.returns] at h; cases h) (fun fs hr => ?_) eT ?_ (by decide) (by decide)
              · show Steps p.tables e below (T.setTop (mkF m 221 #[.val (.ref b1), .val (.int u1), .val (.int u2), .val (.int en), .val (.int i), .val (.int j210_1_128_191_5), .val (.int (1 : Int32)), .val (.int (128 : Int32)), .val (.int (191 : Int32)), .val (.int j210_1_128_191_9), sl10] [(.int (191 : Int32)), (.int j210_1_128_191_9)])) _
                refine XS.icmpNo X.here hx rfl (hb hby d4_221) rfl (tlt hc221).2.2.2 ?_
                show Steps p.tables e below (T.setTop (mkF m 224 #[.val (.ref b1), .val (.int u1), .val (.int u2), .val (.int en), .val (.int i), .val (.int j210_1_128_191_5), .val (.int (1 : Int32)), .val (.int (128 : Int32)), .val (.int (191 : Int32)), .val (.int j210_1_128_191_9), sl10] [])) _
                refine XS.iconst X.here hx rfl (hb hby d4_224) ?_
                show Steps p.tables e below (T.setTop (mkF m 225 #[.val (.ref b1), .val (.int u1), .val (.int u2), .val (.int en), .val (.int i), .val (.int j210_1_128_191_5), .val (.int (1 : Int32)), .val (.int (128 : Int32)), .val (.int (191 : Int32)), .val (.int j210_1_128_191_9), sl10] [(.int (0 : Int32))])) _
                exact retN X hx (t := .boolean) Bd.returns (by simp) (hb hby d4_225) hr
              · exact ⟨by rw [hu, own_u8A, if_pos hc10, if_pos (show own_ch_0 f_b1 en i = (0 : Int32) by rw [hv, own_ch_210_1_128_191, if_neg hc214, if_pos hc221])], N, rfl⟩
            · refine own_go (b := T.setTop (mkF m 226 #[.val (.ref b1), .val (.int u1), .val (.int u2), .val (.int en), .val (.int i), .val (.int j210_1_128_191_5), .val (.int (1 : Int32)), .val (.int (128 : Int32)), .val (.int (191 : Int32)), .val (.int j210_1_128_191_9), sl10] [])) (fun t k => ?_) ?_
              · show Steps p.tables e below (T.setTop (mkF m 221 #[.val (.ref b1), .val (.int u1), .val (.int u2), .val (.int en), .val (.int i), .val (.int j210_1_128_191_5), .val (.int (1 : Int32)), .val (.int (128 : Int32)), .val (.int (191 : Int32)), .val (.int j210_1_128_191_9), sl10] [(.int (191 : Int32)), (.int j210_1_128_191_9)])) _
                refine XS.icmpYes X.here hx rfl (pc0 := 221) (pc' := 226) rfl (hb hby d4_221) rfl (flt hc221).2.2.2 (by decide) (by decide) ?_
                show Steps p.tables e below (T.setTop (mkF m 226 #[.val (.ref b1), .val (.int u1), .val (.int u2), .val (.int en), .val (.int i), .val (.int j210_1_128_191_5), .val (.int (1 : Int32)), .val (.int (128 : Int32)), .val (.int (191 : Int32)), .val (.int j210_1_128_191_9), sl10] [])) _
                exact k
              exact J226_1 T _ X N eT j210_1_128_191_5 j210_1_128_191_9  (by assumption) (by rw [hv, own_ch_210_1_128_191, if_neg hc214, if_neg hc221])
        have J187_3_144_191 : ∀ (T : State) (lc : List Loc), Stand p l e ({ frames := 0, cells := 0, slots := 0, locals := 0 } : Room) s m #[(.ref b1), (.int u1), (.int u2)] below meth c T lc 0 0 → Fr n0 lc → T.heap = h0 → ∀ (j187_3_144_191_5 : Int32), own_ch_0 f_b1 en i = own_ch_187_3_144_191 f_b1 en i j187_3_144_191_5 → own_Go p e below s (Q4 b1 cl_b1 f_b1 z_b1 u1 u2 h0 n0) ({ frames := 0, cells := 0, slots := 0, locals := 0 } : Room).cells ({ frames := 0, cells := 0, slots := 0, locals := 0 } : Room).slots (T.setTop (mkF m 187 #[.val (.ref b1), .val (.int u1), .val (.int u2), .val (.int en), .val (.int i), .val (.int j187_3_144_191_5), .val (.int (3 : Int32)), .val (.int (144 : Int32)), .val (.int (191 : Int32)), sl9, sl10] [])) := by
          intro T lc X N eT j187_3_144_191_5   hv
          refine own_go (b := T.setTop (mkF m 193 #[.val (.ref b1), .val (.int u1), .val (.int u2), .val (.int en), .val (.int i), .val (.int j187_3_144_191_5), .val (.int (3 : Int32)), .val (.int (144 : Int32)), .val (.int (191 : Int32)), sl9, sl10] [(.int (3 : Int32)), (.int (en - i))])) (fun t k => ?_) ?_
          · show Steps p.tables e below (T.setTop (mkF m 187 #[.val (.ref b1), .val (.int u1), .val (.int u2), .val (.int en), .val (.int i), .val (.int j187_3_144_191_5), .val (.int (3 : Int32)), .val (.int (144 : Int32)), .val (.int (191 : Int32)), sl9, sl10] [])) _
            refine XS.iloadN X.here hx rfl (hb hby d4_187) rfl ?_
            show Steps p.tables e below (T.setTop (mkF m 188 #[.val (.ref b1), .val (.int u1), .val (.int u2), .val (.int en), .val (.int i), .val (.int j187_3_144_191_5), .val (.int (3 : Int32)), .val (.int (144 : Int32)), .val (.int (191 : Int32)), sl9, sl10] [(.int en)])) _
            refine XS.iload X.here hx rfl (hb hby d4_188) rfl ?_
            show Steps p.tables e below (T.setTop (mkF m 190 #[.val (.ref b1), .val (.int u1), .val (.int u2), .val (.int en), .val (.int i), .val (.int j187_3_144_191_5), .val (.int (3 : Int32)), .val (.int (144 : Int32)), .val (.int (191 : Int32)), sl9, sl10] [(.int i), (.int en)])) _
            refine XS.isub X.here hx rfl (hb hby d4_190) rfl ?_
            show Steps p.tables e below (T.setTop (mkF m 191 #[.val (.ref b1), .val (.int u1), .val (.int u2), .val (.int en), .val (.int i), .val (.int j187_3_144_191_5), .val (.int (3 : Int32)), .val (.int (144 : Int32)), .val (.int (191 : Int32)), sl9, sl10] [(.int (en - i))])) _
            refine XS.iload X.here hx rfl (hb hby d4_191) rfl ?_
            show Steps p.tables e below (T.setTop (mkF m 193 #[.val (.ref b1), .val (.int u1), .val (.int u2), .val (.int en), .val (.int i), .val (.int j187_3_144_191_5), .val (.int (3 : Int32)), .val (.int (144 : Int32)), .val (.int (191 : Int32)), sl9, sl10] [(.int (3 : Int32)), (.int (en - i))])) _
            exact k
          by_cases hc193 : (3 : Int32) < (en - i)
          · have hi11 : ¬ (i + (1 : Int32)) < 0 ∧ (i + (1 : Int32)).toNatClampNeg < z_b1.toNatClampNeg := own_ixn j1 hc10 j2 hc193 (by decide)
            refine own_go (b := T.setTop (mkF m 210 #[.val (.ref b1), .val (.int u1), .val (.int u2), .val (.int en), .val (.int i), .val (.int j187_3_144_191_5), .val (.int (3 : Int32)), .val (.int (144 : Int32)), .val (.int (191 : Int32)), .val (.int ((f_b1 (i + (1 : Int32)).toNatClampNeg) &&& (255 : Int32))), sl10] [])) (fun t k => ?_) ?_
            · show Steps p.tables e below (T.setTop (mkF m 193 #[.val (.ref b1), .val (.int u1), .val (.int u2), .val (.int en), .val (.int i), .val (.int j187_3_144_191_5), .val (.int (3 : Int32)), .val (.int (144 : Int32)), .val (.int (191 : Int32)), sl9, sl10] [(.int (3 : Int32)), (.int (en - i))])) _
              refine XS.icmpYes X.here hx rfl (pc0 := 193) (pc' := 198) rfl (hb hby d4_193) rfl (tlt hc193).2.2.1 (by decide) (by decide) ?_
              show Steps p.tables e below (T.setTop (mkF m 198 #[.val (.ref b1), .val (.int u1), .val (.int u2), .val (.int en), .val (.int i), .val (.int j187_3_144_191_5), .val (.int (3 : Int32)), .val (.int (144 : Int32)), .val (.int (191 : Int32)), sl9, sl10] [])) _
              refine XS.aloadN X.here hx rfl (hb hby d4_198) rfl rfl ?_
              show Steps p.tables e below (T.setTop (mkF m 199 #[.val (.ref b1), .val (.int u1), .val (.int u2), .val (.int en), .val (.int i), .val (.int j187_3_144_191_5), .val (.int (3 : Int32)), .val (.int (144 : Int32)), .val (.int (191 : Int32)), sl9, sl10] [(.ref b1)])) _
              refine XS.iload X.here hx rfl (hb hby d4_199) rfl ?_
              show Steps p.tables e below (T.setTop (mkF m 201 #[.val (.ref b1), .val (.int u1), .val (.int u2), .val (.int en), .val (.int i), .val (.int j187_3_144_191_5), .val (.int (3 : Int32)), .val (.int (144 : Int32)), .val (.int (191 : Int32)), sl9, sl10] [(.int i), (.ref b1)])) _
              refine XS.iconst X.here hx rfl (hb hby d4_201) ?_
              show Steps p.tables e below (T.setTop (mkF m 202 #[.val (.ref b1), .val (.int u1), .val (.int u2), .val (.int en), .val (.int i), .val (.int j187_3_144_191_5), .val (.int (3 : Int32)), .val (.int (144 : Int32)), .val (.int (191 : Int32)), sl9, sl10] [(.int (1 : Int32)), (.int i), (.ref b1)])) _
              refine XS.iadd X.here hx rfl (hb hby d4_202) rfl ?_
              show Steps p.tables e below (T.setTop (mkF m 203 #[.val (.ref b1), .val (.int u1), .val (.int u2), .val (.int en), .val (.int i), .val (.int j187_3_144_191_5), .val (.int (3 : Int32)), .val (.int (144 : Int32)), .val (.int (191 : Int32)), sl9, sl10] [(.int (i + (1 : Int32))), (.ref b1)])) _
              refine X.baloadBytes hx (j := (i + (1 : Int32))) (v := (.int (f_b1 (i + (1 : Int32)).toNatClampNeg))) (by rw [eT]; exact Ar_b1.1) (State.isArrayOf_alike hZ.alike Ar_b1.2.1) Ar_b1.2.2 (own_hin S_b1 hi11) (H_b1 _ hi11.2) (g := (mkF m 203 #[.val (.ref b1), .val (.int u1), .val (.int u2), .val (.int en), .val (.int i), .val (.int j187_3_144_191_5), .val (.int (3 : Int32)), .val (.int (144 : Int32)), .val (.int (191 : Int32)), sl9, sl10] [(.int (i + (1 : Int32))), (.ref b1)])) rfl rfl (hb hby d4_203) _ ?_
              show Steps p.tables e below (T.setTop (mkF m 204 #[.val (.ref b1), .val (.int u1), .val (.int u2), .val (.int en), .val (.int i), .val (.int j187_3_144_191_5), .val (.int (3 : Int32)), .val (.int (144 : Int32)), .val (.int (191 : Int32)), sl9, sl10] [(.int (f_b1 (i + (1 : Int32)).toNatClampNeg))])) _
              refine XS.sipush X.here hx rfl (hb hby d4_204) ?_
              show Steps p.tables e below (T.setTop (mkF m 207 #[.val (.ref b1), .val (.int u1), .val (.int u2), .val (.int en), .val (.int i), .val (.int j187_3_144_191_5), .val (.int (3 : Int32)), .val (.int (144 : Int32)), .val (.int (191 : Int32)), sl9, sl10] [(.int (255 : Int32)), (.int (f_b1 (i + (1 : Int32)).toNatClampNeg))])) _
              refine XS.iand X.here hx rfl (hb hby d4_207) rfl ?_
              show Steps p.tables e below (T.setTop (mkF m 208 #[.val (.ref b1), .val (.int u1), .val (.int u2), .val (.int en), .val (.int i), .val (.int j187_3_144_191_5), .val (.int (3 : Int32)), .val (.int (144 : Int32)), .val (.int (191 : Int32)), sl9, sl10] [(.int ((f_b1 (i + (1 : Int32)).toNatClampNeg) &&& (255 : Int32)))])) _
              refine XS.istoreS X.here hx rfl (hb hby d4_208) rfl rfl o9 ?_
              show Steps p.tables e below (T.setTop (mkF m 210 #[.val (.ref b1), .val (.int u1), .val (.int u2), .val (.int en), .val (.int i), .val (.int j187_3_144_191_5), .val (.int (3 : Int32)), .val (.int (144 : Int32)), .val (.int (191 : Int32)), .val (.int ((f_b1 (i + (1 : Int32)).toNatClampNeg) &&& (255 : Int32))), sl10] [])) _
              exact k
            exact J210_3_144_191 T _ X N eT j187_3_144_191_5 ((f_b1 (i + (1 : Int32)).toNatClampNeg) &&& (255 : Int32))  (by assumption) (by rw [hv, own_ch_187_3_144_191, if_pos hc193])
          · refine own_end X Bd.notSynchronized (v := some (.int (0 : Int32))) (fun h => by rw [Bd.returns] at h; cases h) (fun fs hr => ?_) eT ?_ (by decide) (by decide)
            · show Steps p.tables e below (T.setTop (mkF m 193 #[.val (.ref b1), .val (.int u1), .val (.int u2), .val (.int en), .val (.int i), .val (.int j187_3_144_191_5), .val (.int (3 : Int32)), .val (.int (144 : Int32)), .val (.int (191 : Int32)), sl9, sl10] [(.int (3 : Int32)), (.int (en - i))])) _
              refine XS.icmpNo X.here hx rfl (hb hby d4_193) rfl (flt hc193).2.2.1 ?_
              show Steps p.tables e below (T.setTop (mkF m 196 #[.val (.ref b1), .val (.int u1), .val (.int u2), .val (.int en), .val (.int i), .val (.int j187_3_144_191_5), .val (.int (3 : Int32)), .val (.int (144 : Int32)), .val (.int (191 : Int32)), sl9, sl10] [])) _
              refine XS.iconst X.here hx rfl (hb hby d4_196) ?_
              show Steps p.tables e below (T.setTop (mkF m 197 #[.val (.ref b1), .val (.int u1), .val (.int u2), .val (.int en), .val (.int i), .val (.int j187_3_144_191_5), .val (.int (3 : Int32)), .val (.int (144 : Int32)), .val (.int (191 : Int32)), sl9, sl10] [(.int (0 : Int32))])) _
              exact retN X hx (t := .boolean) Bd.returns (by simp) (hb hby d4_197) hr
            · exact ⟨by rw [hu, own_u8A, if_pos hc10, if_pos (show own_ch_0 f_b1 en i = (0 : Int32) by rw [hv, own_ch_187_3_144_191, if_neg hc193])], N, rfl⟩
        have J187_3_144_143 : ∀ (T : State) (lc : List Loc), Stand p l e ({ frames := 0, cells := 0, slots := 0, locals := 0 } : Room) s m #[(.ref b1), (.int u1), (.int u2)] below meth c T lc 0 0 → Fr n0 lc → T.heap = h0 → ∀ (j187_3_144_143_5 : Int32), own_ch_0 f_b1 en i = own_ch_187_3_144_143 f_b1 en i j187_3_144_143_5 → own_Go p e below s (Q4 b1 cl_b1 f_b1 z_b1 u1 u2 h0 n0) ({ frames := 0, cells := 0, slots := 0, locals := 0 } : Room).cells ({ frames := 0, cells := 0, slots := 0, locals := 0 } : Room).slots (T.setTop (mkF m 187 #[.val (.ref b1), .val (.int u1), .val (.int u2), .val (.int en), .val (.int i), .val (.int j187_3_144_143_5), .val (.int (3 : Int32)), .val (.int (144 : Int32)), .val (.int (143 : Int32)), sl9, sl10] [])) := by
          intro T lc X N eT j187_3_144_143_5   hv
          refine own_go (b := T.setTop (mkF m 193 #[.val (.ref b1), .val (.int u1), .val (.int u2), .val (.int en), .val (.int i), .val (.int j187_3_144_143_5), .val (.int (3 : Int32)), .val (.int (144 : Int32)), .val (.int (143 : Int32)), sl9, sl10] [(.int (3 : Int32)), (.int (en - i))])) (fun t k => ?_) ?_
          · show Steps p.tables e below (T.setTop (mkF m 187 #[.val (.ref b1), .val (.int u1), .val (.int u2), .val (.int en), .val (.int i), .val (.int j187_3_144_143_5), .val (.int (3 : Int32)), .val (.int (144 : Int32)), .val (.int (143 : Int32)), sl9, sl10] [])) _
            refine XS.iloadN X.here hx rfl (hb hby d4_187) rfl ?_
            show Steps p.tables e below (T.setTop (mkF m 188 #[.val (.ref b1), .val (.int u1), .val (.int u2), .val (.int en), .val (.int i), .val (.int j187_3_144_143_5), .val (.int (3 : Int32)), .val (.int (144 : Int32)), .val (.int (143 : Int32)), sl9, sl10] [(.int en)])) _
            refine XS.iload X.here hx rfl (hb hby d4_188) rfl ?_
            show Steps p.tables e below (T.setTop (mkF m 190 #[.val (.ref b1), .val (.int u1), .val (.int u2), .val (.int en), .val (.int i), .val (.int j187_3_144_143_5), .val (.int (3 : Int32)), .val (.int (144 : Int32)), .val (.int (143 : Int32)), sl9, sl10] [(.int i), (.int en)])) _
            refine XS.isub X.here hx rfl (hb hby d4_190) rfl ?_
            show Steps p.tables e below (T.setTop (mkF m 191 #[.val (.ref b1), .val (.int u1), .val (.int u2), .val (.int en), .val (.int i), .val (.int j187_3_144_143_5), .val (.int (3 : Int32)), .val (.int (144 : Int32)), .val (.int (143 : Int32)), sl9, sl10] [(.int (en - i))])) _
            refine XS.iload X.here hx rfl (hb hby d4_191) rfl ?_
            show Steps p.tables e below (T.setTop (mkF m 193 #[.val (.ref b1), .val (.int u1), .val (.int u2), .val (.int en), .val (.int i), .val (.int j187_3_144_143_5), .val (.int (3 : Int32)), .val (.int (144 : Int32)), .val (.int (143 : Int32)), sl9, sl10] [(.int (3 : Int32)), (.int (en - i))])) _
            exact k
          by_cases hc193 : (3 : Int32) < (en - i)
          · have hi12 : ¬ (i + (1 : Int32)) < 0 ∧ (i + (1 : Int32)).toNatClampNeg < z_b1.toNatClampNeg := own_ixn j1 hc10 j2 hc193 (by decide)
            refine own_go (b := T.setTop (mkF m 210 #[.val (.ref b1), .val (.int u1), .val (.int u2), .val (.int en), .val (.int i), .val (.int j187_3_144_143_5), .val (.int (3 : Int32)), .val (.int (144 : Int32)), .val (.int (143 : Int32)), .val (.int ((f_b1 (i + (1 : Int32)).toNatClampNeg) &&& (255 : Int32))), sl10] [])) (fun t k => ?_) ?_
            · show Steps p.tables e below (T.setTop (mkF m 193 #[.val (.ref b1), .val (.int u1), .val (.int u2), .val (.int en), .val (.int i), .val (.int j187_3_144_143_5), .val (.int (3 : Int32)), .val (.int (144 : Int32)), .val (.int (143 : Int32)), sl9, sl10] [(.int (3 : Int32)), (.int (en - i))])) _
              refine XS.icmpYes X.here hx rfl (pc0 := 193) (pc' := 198) rfl (hb hby d4_193) rfl (tlt hc193).2.2.1 (by decide) (by decide) ?_
              show Steps p.tables e below (T.setTop (mkF m 198 #[.val (.ref b1), .val (.int u1), .val (.int u2), .val (.int en), .val (.int i), .val (.int j187_3_144_143_5), .val (.int (3 : Int32)), .val (.int (144 : Int32)), .val (.int (143 : Int32)), sl9, sl10] [])) _
              refine XS.aloadN X.here hx rfl (hb hby d4_198) rfl rfl ?_
              show Steps p.tables e below (T.setTop (mkF m 199 #[.val (.ref b1), .val (.int u1), .val (.int u2), .val (.int en), .val (.int i), .val (.int j187_3_144_143_5), .val (.int (3 : Int32)), .val (.int (144 : Int32)), .val (.int (143 : Int32)), sl9, sl10] [(.ref b1)])) _
              refine XS.iload X.here hx rfl (hb hby d4_199) rfl ?_
              show Steps p.tables e below (T.setTop (mkF m 201 #[.val (.ref b1), .val (.int u1), .val (.int u2), .val (.int en), .val (.int i), .val (.int j187_3_144_143_5), .val (.int (3 : Int32)), .val (.int (144 : Int32)), .val (.int (143 : Int32)), sl9, sl10] [(.int i), (.ref b1)])) _
              refine XS.iconst X.here hx rfl (hb hby d4_201) ?_
              show Steps p.tables e below (T.setTop (mkF m 202 #[.val (.ref b1), .val (.int u1), .val (.int u2), .val (.int en), .val (.int i), .val (.int j187_3_144_143_5), .val (.int (3 : Int32)), .val (.int (144 : Int32)), .val (.int (143 : Int32)), sl9, sl10] [(.int (1 : Int32)), (.int i), (.ref b1)])) _
              refine XS.iadd X.here hx rfl (hb hby d4_202) rfl ?_
              show Steps p.tables e below (T.setTop (mkF m 203 #[.val (.ref b1), .val (.int u1), .val (.int u2), .val (.int en), .val (.int i), .val (.int j187_3_144_143_5), .val (.int (3 : Int32)), .val (.int (144 : Int32)), .val (.int (143 : Int32)), sl9, sl10] [(.int (i + (1 : Int32))), (.ref b1)])) _
              refine X.baloadBytes hx (j := (i + (1 : Int32))) (v := (.int (f_b1 (i + (1 : Int32)).toNatClampNeg))) (by rw [eT]; exact Ar_b1.1) (State.isArrayOf_alike hZ.alike Ar_b1.2.1) Ar_b1.2.2 (own_hin S_b1 hi12) (H_b1 _ hi12.2) (g := (mkF m 203 #[.val (.ref b1), .val (.int u1), .val (.int u2), .val (.int en), .val (.int i), .val (.int j187_3_144_143_5), .val (.int (3 : Int32)), .val (.int (144 : Int32)), .val (.int (143 : Int32)), sl9, sl10] [(.int (i + (1 : Int32))), (.ref b1)])) rfl rfl (hb hby d4_203) _ ?_
              show Steps p.tables e below (T.setTop (mkF m 204 #[.val (.ref b1), .val (.int u1), .val (.int u2), .val (.int en), .val (.int i), .val (.int j187_3_144_143_5), .val (.int (3 : Int32)), .val (.int (144 : Int32)), .val (.int (143 : Int32)), sl9, sl10] [(.int (f_b1 (i + (1 : Int32)).toNatClampNeg))])) _
              refine XS.sipush X.here hx rfl (hb hby d4_204) ?_
              show Steps p.tables e below (T.setTop (mkF m 207 #[.val (.ref b1), .val (.int u1), .val (.int u2), .val (.int en), .val (.int i), .val (.int j187_3_144_143_5), .val (.int (3 : Int32)), .val (.int (144 : Int32)), .val (.int (143 : Int32)), sl9, sl10] [(.int (255 : Int32)), (.int (f_b1 (i + (1 : Int32)).toNatClampNeg))])) _
              refine XS.iand X.here hx rfl (hb hby d4_207) rfl ?_
              show Steps p.tables e below (T.setTop (mkF m 208 #[.val (.ref b1), .val (.int u1), .val (.int u2), .val (.int en), .val (.int i), .val (.int j187_3_144_143_5), .val (.int (3 : Int32)), .val (.int (144 : Int32)), .val (.int (143 : Int32)), sl9, sl10] [(.int ((f_b1 (i + (1 : Int32)).toNatClampNeg) &&& (255 : Int32)))])) _
              refine XS.istoreS X.here hx rfl (hb hby d4_208) rfl rfl o9 ?_
              show Steps p.tables e below (T.setTop (mkF m 210 #[.val (.ref b1), .val (.int u1), .val (.int u2), .val (.int en), .val (.int i), .val (.int j187_3_144_143_5), .val (.int (3 : Int32)), .val (.int (144 : Int32)), .val (.int (143 : Int32)), .val (.int ((f_b1 (i + (1 : Int32)).toNatClampNeg) &&& (255 : Int32))), sl10] [])) _
              exact k
            exact J210_3_144_143 T _ X N eT j187_3_144_143_5 ((f_b1 (i + (1 : Int32)).toNatClampNeg) &&& (255 : Int32))  (by assumption) (by rw [hv, own_ch_187_3_144_143, if_pos hc193])
          · refine own_end X Bd.notSynchronized (v := some (.int (0 : Int32))) (fun h => by rw [Bd.returns] at h; cases h) (fun fs hr => ?_) eT ?_ (by decide) (by decide)
            · show Steps p.tables e below (T.setTop (mkF m 193 #[.val (.ref b1), .val (.int u1), .val (.int u2), .val (.int en), .val (.int i), .val (.int j187_3_144_143_5), .val (.int (3 : Int32)), .val (.int (144 : Int32)), .val (.int (143 : Int32)), sl9, sl10] [(.int (3 : Int32)), (.int (en - i))])) _
              refine XS.icmpNo X.here hx rfl (hb hby d4_193) rfl (flt hc193).2.2.1 ?_
              show Steps p.tables e below (T.setTop (mkF m 196 #[.val (.ref b1), .val (.int u1), .val (.int u2), .val (.int en), .val (.int i), .val (.int j187_3_144_143_5), .val (.int (3 : Int32)), .val (.int (144 : Int32)), .val (.int (143 : Int32)), sl9, sl10] [])) _
              refine XS.iconst X.here hx rfl (hb hby d4_196) ?_
              show Steps p.tables e below (T.setTop (mkF m 197 #[.val (.ref b1), .val (.int u1), .val (.int u2), .val (.int en), .val (.int i), .val (.int j187_3_144_143_5), .val (.int (3 : Int32)), .val (.int (144 : Int32)), .val (.int (143 : Int32)), sl9, sl10] [(.int (0 : Int32))])) _
              exact retN X hx (t := .boolean) Bd.returns (by simp) (hb hby d4_197) hr
            · exact ⟨by rw [hu, own_u8A, if_pos hc10, if_pos (show own_ch_0 f_b1 en i = (0 : Int32) by rw [hv, own_ch_187_3_144_143, if_neg hc193])], N, rfl⟩
        have J187_3_128_191 : ∀ (T : State) (lc : List Loc), Stand p l e ({ frames := 0, cells := 0, slots := 0, locals := 0 } : Room) s m #[(.ref b1), (.int u1), (.int u2)] below meth c T lc 0 0 → Fr n0 lc → T.heap = h0 → ∀ (j187_3_128_191_5 : Int32), own_ch_0 f_b1 en i = own_ch_187_3_128_191 f_b1 en i j187_3_128_191_5 → own_Go p e below s (Q4 b1 cl_b1 f_b1 z_b1 u1 u2 h0 n0) ({ frames := 0, cells := 0, slots := 0, locals := 0 } : Room).cells ({ frames := 0, cells := 0, slots := 0, locals := 0 } : Room).slots (T.setTop (mkF m 187 #[.val (.ref b1), .val (.int u1), .val (.int u2), .val (.int en), .val (.int i), .val (.int j187_3_128_191_5), .val (.int (3 : Int32)), .val (.int (128 : Int32)), .val (.int (191 : Int32)), sl9, sl10] [])) := by
          intro T lc X N eT j187_3_128_191_5   hv
          refine own_go (b := T.setTop (mkF m 193 #[.val (.ref b1), .val (.int u1), .val (.int u2), .val (.int en), .val (.int i), .val (.int j187_3_128_191_5), .val (.int (3 : Int32)), .val (.int (128 : Int32)), .val (.int (191 : Int32)), sl9, sl10] [(.int (3 : Int32)), (.int (en - i))])) (fun t k => ?_) ?_
          · show Steps p.tables e below (T.setTop (mkF m 187 #[.val (.ref b1), .val (.int u1), .val (.int u2), .val (.int en), .val (.int i), .val (.int j187_3_128_191_5), .val (.int (3 : Int32)), .val (.int (128 : Int32)), .val (.int (191 : Int32)), sl9, sl10] [])) _
            refine XS.iloadN X.here hx rfl (hb hby d4_187) rfl ?_
            show Steps p.tables e below (T.setTop (mkF m 188 #[.val (.ref b1), .val (.int u1), .val (.int u2), .val (.int en), .val (.int i), .val (.int j187_3_128_191_5), .val (.int (3 : Int32)), .val (.int (128 : Int32)), .val (.int (191 : Int32)), sl9, sl10] [(.int en)])) _
            refine XS.iload X.here hx rfl (hb hby d4_188) rfl ?_
            show Steps p.tables e below (T.setTop (mkF m 190 #[.val (.ref b1), .val (.int u1), .val (.int u2), .val (.int en), .val (.int i), .val (.int j187_3_128_191_5), .val (.int (3 : Int32)), .val (.int (128 : Int32)), .val (.int (191 : Int32)), sl9, sl10] [(.int i), (.int en)])) _
            refine XS.isub X.here hx rfl (hb hby d4_190) rfl ?_
            show Steps p.tables e below (T.setTop (mkF m 191 #[.val (.ref b1), .val (.int u1), .val (.int u2), .val (.int en), .val (.int i), .val (.int j187_3_128_191_5), .val (.int (3 : Int32)), .val (.int (128 : Int32)), .val (.int (191 : Int32)), sl9, sl10] [(.int (en - i))])) _
            refine XS.iload X.here hx rfl (hb hby d4_191) rfl ?_
            show Steps p.tables e below (T.setTop (mkF m 193 #[.val (.ref b1), .val (.int u1), .val (.int u2), .val (.int en), .val (.int i), .val (.int j187_3_128_191_5), .val (.int (3 : Int32)), .val (.int (128 : Int32)), .val (.int (191 : Int32)), sl9, sl10] [(.int (3 : Int32)), (.int (en - i))])) _
            exact k
          by_cases hc193 : (3 : Int32) < (en - i)
          · have hi13 : ¬ (i + (1 : Int32)) < 0 ∧ (i + (1 : Int32)).toNatClampNeg < z_b1.toNatClampNeg := own_ixn j1 hc10 j2 hc193 (by decide)
            refine own_go (b := T.setTop (mkF m 210 #[.val (.ref b1), .val (.int u1), .val (.int u2), .val (.int en), .val (.int i), .val (.int j187_3_128_191_5), .val (.int (3 : Int32)), .val (.int (128 : Int32)), .val (.int (191 : Int32)), .val (.int ((f_b1 (i + (1 : Int32)).toNatClampNeg) &&& (255 : Int32))), sl10] [])) (fun t k => ?_) ?_
            · show Steps p.tables e below (T.setTop (mkF m 193 #[.val (.ref b1), .val (.int u1), .val (.int u2), .val (.int en), .val (.int i), .val (.int j187_3_128_191_5), .val (.int (3 : Int32)), .val (.int (128 : Int32)), .val (.int (191 : Int32)), sl9, sl10] [(.int (3 : Int32)), (.int (en - i))])) _
              refine XS.icmpYes X.here hx rfl (pc0 := 193) (pc' := 198) rfl (hb hby d4_193) rfl (tlt hc193).2.2.1 (by decide) (by decide) ?_
              show Steps p.tables e below (T.setTop (mkF m 198 #[.val (.ref b1), .val (.int u1), .val (.int u2), .val (.int en), .val (.int i), .val (.int j187_3_128_191_5), .val (.int (3 : Int32)), .val (.int (128 : Int32)), .val (.int (191 : Int32)), sl9, sl10] [])) _
              refine XS.aloadN X.here hx rfl (hb hby d4_198) rfl rfl ?_
              show Steps p.tables e below (T.setTop (mkF m 199 #[.val (.ref b1), .val (.int u1), .val (.int u2), .val (.int en), .val (.int i), .val (.int j187_3_128_191_5), .val (.int (3 : Int32)), .val (.int (128 : Int32)), .val (.int (191 : Int32)), sl9, sl10] [(.ref b1)])) _
              refine XS.iload X.here hx rfl (hb hby d4_199) rfl ?_
              show Steps p.tables e below (T.setTop (mkF m 201 #[.val (.ref b1), .val (.int u1), .val (.int u2), .val (.int en), .val (.int i), .val (.int j187_3_128_191_5), .val (.int (3 : Int32)), .val (.int (128 : Int32)), .val (.int (191 : Int32)), sl9, sl10] [(.int i), (.ref b1)])) _
              refine XS.iconst X.here hx rfl (hb hby d4_201) ?_
              show Steps p.tables e below (T.setTop (mkF m 202 #[.val (.ref b1), .val (.int u1), .val (.int u2), .val (.int en), .val (.int i), .val (.int j187_3_128_191_5), .val (.int (3 : Int32)), .val (.int (128 : Int32)), .val (.int (191 : Int32)), sl9, sl10] [(.int (1 : Int32)), (.int i), (.ref b1)])) _
              refine XS.iadd X.here hx rfl (hb hby d4_202) rfl ?_
              show Steps p.tables e below (T.setTop (mkF m 203 #[.val (.ref b1), .val (.int u1), .val (.int u2), .val (.int en), .val (.int i), .val (.int j187_3_128_191_5), .val (.int (3 : Int32)), .val (.int (128 : Int32)), .val (.int (191 : Int32)), sl9, sl10] [(.int (i + (1 : Int32))), (.ref b1)])) _
              refine X.baloadBytes hx (j := (i + (1 : Int32))) (v := (.int (f_b1 (i + (1 : Int32)).toNatClampNeg))) (by rw [eT]; exact Ar_b1.1) (State.isArrayOf_alike hZ.alike Ar_b1.2.1) Ar_b1.2.2 (own_hin S_b1 hi13) (H_b1 _ hi13.2) (g := (mkF m 203 #[.val (.ref b1), .val (.int u1), .val (.int u2), .val (.int en), .val (.int i), .val (.int j187_3_128_191_5), .val (.int (3 : Int32)), .val (.int (128 : Int32)), .val (.int (191 : Int32)), sl9, sl10] [(.int (i + (1 : Int32))), (.ref b1)])) rfl rfl (hb hby d4_203) _ ?_
              show Steps p.tables e below (T.setTop (mkF m 204 #[.val (.ref b1), .val (.int u1), .val (.int u2), .val (.int en), .val (.int i), .val (.int j187_3_128_191_5), .val (.int (3 : Int32)), .val (.int (128 : Int32)), .val (.int (191 : Int32)), sl9, sl10] [(.int (f_b1 (i + (1 : Int32)).toNatClampNeg))])) _
              refine XS.sipush X.here hx rfl (hb hby d4_204) ?_
              show Steps p.tables e below (T.setTop (mkF m 207 #[.val (.ref b1), .val (.int u1), .val (.int u2), .val (.int en), .val (.int i), .val (.int j187_3_128_191_5), .val (.int (3 : Int32)), .val (.int (128 : Int32)), .val (.int (191 : Int32)), sl9, sl10] [(.int (255 : Int32)), (.int (f_b1 (i + (1 : Int32)).toNatClampNeg))])) _
              refine XS.iand X.here hx rfl (hb hby d4_207) rfl ?_
              show Steps p.tables e below (T.setTop (mkF m 208 #[.val (.ref b1), .val (.int u1), .val (.int u2), .val (.int en), .val (.int i), .val (.int j187_3_128_191_5), .val (.int (3 : Int32)), .val (.int (128 : Int32)), .val (.int (191 : Int32)), sl9, sl10] [(.int ((f_b1 (i + (1 : Int32)).toNatClampNeg) &&& (255 : Int32)))])) _
              refine XS.istoreS X.here hx rfl (hb hby d4_208) rfl rfl o9 ?_
              show Steps p.tables e below (T.setTop (mkF m 210 #[.val (.ref b1), .val (.int u1), .val (.int u2), .val (.int en), .val (.int i), .val (.int j187_3_128_191_5), .val (.int (3 : Int32)), .val (.int (128 : Int32)), .val (.int (191 : Int32)), .val (.int ((f_b1 (i + (1 : Int32)).toNatClampNeg) &&& (255 : Int32))), sl10] [])) _
              exact k
            exact J210_3_128_191 T _ X N eT j187_3_128_191_5 ((f_b1 (i + (1 : Int32)).toNatClampNeg) &&& (255 : Int32))  (by assumption) (by rw [hv, own_ch_187_3_128_191, if_pos hc193])
          · refine own_end X Bd.notSynchronized (v := some (.int (0 : Int32))) (fun h => by rw [Bd.returns] at h; cases h) (fun fs hr => ?_) eT ?_ (by decide) (by decide)
            · show Steps p.tables e below (T.setTop (mkF m 193 #[.val (.ref b1), .val (.int u1), .val (.int u2), .val (.int en), .val (.int i), .val (.int j187_3_128_191_5), .val (.int (3 : Int32)), .val (.int (128 : Int32)), .val (.int (191 : Int32)), sl9, sl10] [(.int (3 : Int32)), (.int (en - i))])) _
              refine XS.icmpNo X.here hx rfl (hb hby d4_193) rfl (flt hc193).2.2.1 ?_
              show Steps p.tables e below (T.setTop (mkF m 196 #[.val (.ref b1), .val (.int u1), .val (.int u2), .val (.int en), .val (.int i), .val (.int j187_3_128_191_5), .val (.int (3 : Int32)), .val (.int (128 : Int32)), .val (.int (191 : Int32)), sl9, sl10] [])) _
              refine XS.iconst X.here hx rfl (hb hby d4_196) ?_
              show Steps p.tables e below (T.setTop (mkF m 197 #[.val (.ref b1), .val (.int u1), .val (.int u2), .val (.int en), .val (.int i), .val (.int j187_3_128_191_5), .val (.int (3 : Int32)), .val (.int (128 : Int32)), .val (.int (191 : Int32)), sl9, sl10] [(.int (0 : Int32))])) _
              exact retN X hx (t := .boolean) Bd.returns (by simp) (hb hby d4_197) hr
            · exact ⟨by rw [hu, own_u8A, if_pos hc10, if_pos (show own_ch_0 f_b1 en i = (0 : Int32) by rw [hv, own_ch_187_3_128_191, if_neg hc193])], N, rfl⟩
        have J187_3_128_143 : ∀ (T : State) (lc : List Loc), Stand p l e ({ frames := 0, cells := 0, slots := 0, locals := 0 } : Room) s m #[(.ref b1), (.int u1), (.int u2)] below meth c T lc 0 0 → Fr n0 lc → T.heap = h0 → ∀ (j187_3_128_143_5 : Int32), own_ch_0 f_b1 en i = own_ch_187_3_128_143 f_b1 en i j187_3_128_143_5 → own_Go p e below s (Q4 b1 cl_b1 f_b1 z_b1 u1 u2 h0 n0) ({ frames := 0, cells := 0, slots := 0, locals := 0 } : Room).cells ({ frames := 0, cells := 0, slots := 0, locals := 0 } : Room).slots (T.setTop (mkF m 187 #[.val (.ref b1), .val (.int u1), .val (.int u2), .val (.int en), .val (.int i), .val (.int j187_3_128_143_5), .val (.int (3 : Int32)), .val (.int (128 : Int32)), .val (.int (143 : Int32)), sl9, sl10] [])) := by
          intro T lc X N eT j187_3_128_143_5   hv
          refine own_go (b := T.setTop (mkF m 193 #[.val (.ref b1), .val (.int u1), .val (.int u2), .val (.int en), .val (.int i), .val (.int j187_3_128_143_5), .val (.int (3 : Int32)), .val (.int (128 : Int32)), .val (.int (143 : Int32)), sl9, sl10] [(.int (3 : Int32)), (.int (en - i))])) (fun t k => ?_) ?_
          · show Steps p.tables e below (T.setTop (mkF m 187 #[.val (.ref b1), .val (.int u1), .val (.int u2), .val (.int en), .val (.int i), .val (.int j187_3_128_143_5), .val (.int (3 : Int32)), .val (.int (128 : Int32)), .val (.int (143 : Int32)), sl9, sl10] [])) _
            refine XS.iloadN X.here hx rfl (hb hby d4_187) rfl ?_
            show Steps p.tables e below (T.setTop (mkF m 188 #[.val (.ref b1), .val (.int u1), .val (.int u2), .val (.int en), .val (.int i), .val (.int j187_3_128_143_5), .val (.int (3 : Int32)), .val (.int (128 : Int32)), .val (.int (143 : Int32)), sl9, sl10] [(.int en)])) _
            refine XS.iload X.here hx rfl (hb hby d4_188) rfl ?_
            show Steps p.tables e below (T.setTop (mkF m 190 #[.val (.ref b1), .val (.int u1), .val (.int u2), .val (.int en), .val (.int i), .val (.int j187_3_128_143_5), .val (.int (3 : Int32)), .val (.int (128 : Int32)), .val (.int (143 : Int32)), sl9, sl10] [(.int i), (.int en)])) _
            refine XS.isub X.here hx rfl (hb hby d4_190) rfl ?_
            show Steps p.tables e below (T.setTop (mkF m 191 #[.val (.ref b1), .val (.int u1), .val (.int u2), .val (.int en), .val (.int i), .val (.int j187_3_128_143_5), .val (.int (3 : Int32)), .val (.int (128 : Int32)), .val (.int (143 : Int32)), sl9, sl10] [(.int (en - i))])) _
            refine XS.iload X.here hx rfl (hb hby d4_191) rfl ?_
            show Steps p.tables e below (T.setTop (mkF m 193 #[.val (.ref b1), .val (.int u1), .val (.int u2), .val (.int en), .val (.int i), .val (.int j187_3_128_143_5), .val (.int (3 : Int32)), .val (.int (128 : Int32)), .val (.int (143 : Int32)), sl9, sl10] [(.int (3 : Int32)), (.int (en - i))])) _
            exact k
          by_cases hc193 : (3 : Int32) < (en - i)
          · have hi14 : ¬ (i + (1 : Int32)) < 0 ∧ (i + (1 : Int32)).toNatClampNeg < z_b1.toNatClampNeg := own_ixn j1 hc10 j2 hc193 (by decide)
            refine own_go (b := T.setTop (mkF m 210 #[.val (.ref b1), .val (.int u1), .val (.int u2), .val (.int en), .val (.int i), .val (.int j187_3_128_143_5), .val (.int (3 : Int32)), .val (.int (128 : Int32)), .val (.int (143 : Int32)), .val (.int ((f_b1 (i + (1 : Int32)).toNatClampNeg) &&& (255 : Int32))), sl10] [])) (fun t k => ?_) ?_
            · show Steps p.tables e below (T.setTop (mkF m 193 #[.val (.ref b1), .val (.int u1), .val (.int u2), .val (.int en), .val (.int i), .val (.int j187_3_128_143_5), .val (.int (3 : Int32)), .val (.int (128 : Int32)), .val (.int (143 : Int32)), sl9, sl10] [(.int (3 : Int32)), (.int (en - i))])) _
              refine XS.icmpYes X.here hx rfl (pc0 := 193) (pc' := 198) rfl (hb hby d4_193) rfl (tlt hc193).2.2.1 (by decide) (by decide) ?_
              show Steps p.tables e below (T.setTop (mkF m 198 #[.val (.ref b1), .val (.int u1), .val (.int u2), .val (.int en), .val (.int i), .val (.int j187_3_128_143_5), .val (.int (3 : Int32)), .val (.int (128 : Int32)), .val (.int (143 : Int32)), sl9, sl10] [])) _
              refine XS.aloadN X.here hx rfl (hb hby d4_198) rfl rfl ?_
              show Steps p.tables e below (T.setTop (mkF m 199 #[.val (.ref b1), .val (.int u1), .val (.int u2), .val (.int en), .val (.int i), .val (.int j187_3_128_143_5), .val (.int (3 : Int32)), .val (.int (128 : Int32)), .val (.int (143 : Int32)), sl9, sl10] [(.ref b1)])) _
              refine XS.iload X.here hx rfl (hb hby d4_199) rfl ?_
              show Steps p.tables e below (T.setTop (mkF m 201 #[.val (.ref b1), .val (.int u1), .val (.int u2), .val (.int en), .val (.int i), .val (.int j187_3_128_143_5), .val (.int (3 : Int32)), .val (.int (128 : Int32)), .val (.int (143 : Int32)), sl9, sl10] [(.int i), (.ref b1)])) _
              refine XS.iconst X.here hx rfl (hb hby d4_201) ?_
              show Steps p.tables e below (T.setTop (mkF m 202 #[.val (.ref b1), .val (.int u1), .val (.int u2), .val (.int en), .val (.int i), .val (.int j187_3_128_143_5), .val (.int (3 : Int32)), .val (.int (128 : Int32)), .val (.int (143 : Int32)), sl9, sl10] [(.int (1 : Int32)), (.int i), (.ref b1)])) _
              refine XS.iadd X.here hx rfl (hb hby d4_202) rfl ?_
              show Steps p.tables e below (T.setTop (mkF m 203 #[.val (.ref b1), .val (.int u1), .val (.int u2), .val (.int en), .val (.int i), .val (.int j187_3_128_143_5), .val (.int (3 : Int32)), .val (.int (128 : Int32)), .val (.int (143 : Int32)), sl9, sl10] [(.int (i + (1 : Int32))), (.ref b1)])) _
              refine X.baloadBytes hx (j := (i + (1 : Int32))) (v := (.int (f_b1 (i + (1 : Int32)).toNatClampNeg))) (by rw [eT]; exact Ar_b1.1) (State.isArrayOf_alike hZ.alike Ar_b1.2.1) Ar_b1.2.2 (own_hin S_b1 hi14) (H_b1 _ hi14.2) (g := (mkF m 203 #[.val (.ref b1), .val (.int u1), .val (.int u2), .val (.int en), .val (.int i), .val (.int j187_3_128_143_5), .val (.int (3 : Int32)), .val (.int (128 : Int32)), .val (.int (143 : Int32)), sl9, sl10] [(.int (i + (1 : Int32))), (.ref b1)])) rfl rfl (hb hby d4_203) _ ?_
              show Steps p.tables e below (T.setTop (mkF m 204 #[.val (.ref b1), .val (.int u1), .val (.int u2), .val (.int en), .val (.int i), .val (.int j187_3_128_143_5), .val (.int (3 : Int32)), .val (.int (128 : Int32)), .val (.int (143 : Int32)), sl9, sl10] [(.int (f_b1 (i + (1 : Int32)).toNatClampNeg))])) _
              refine XS.sipush X.here hx rfl (hb hby d4_204) ?_
              show Steps p.tables e below (T.setTop (mkF m 207 #[.val (.ref b1), .val (.int u1), .val (.int u2), .val (.int en), .val (.int i), .val (.int j187_3_128_143_5), .val (.int (3 : Int32)), .val (.int (128 : Int32)), .val (.int (143 : Int32)), sl9, sl10] [(.int (255 : Int32)), (.int (f_b1 (i + (1 : Int32)).toNatClampNeg))])) _
              refine XS.iand X.here hx rfl (hb hby d4_207) rfl ?_
              show Steps p.tables e below (T.setTop (mkF m 208 #[.val (.ref b1), .val (.int u1), .val (.int u2), .val (.int en), .val (.int i), .val (.int j187_3_128_143_5), .val (.int (3 : Int32)), .val (.int (128 : Int32)), .val (.int (143 : Int32)), sl9, sl10] [(.int ((f_b1 (i + (1 : Int32)).toNatClampNeg) &&& (255 : Int32)))])) _
              refine XS.istoreS X.here hx rfl (hb hby d4_208) rfl rfl o9 ?_
              show Steps p.tables e below (T.setTop (mkF m 210 #[.val (.ref b1), .val (.int u1), .val (.int u2), .val (.int en), .val (.int i), .val (.int j187_3_128_143_5), .val (.int (3 : Int32)), .val (.int (128 : Int32)), .val (.int (143 : Int32)), .val (.int ((f_b1 (i + (1 : Int32)).toNatClampNeg) &&& (255 : Int32))), sl10] [])) _
              exact k
            exact J210_3_128_143 T _ X N eT j187_3_128_143_5 ((f_b1 (i + (1 : Int32)).toNatClampNeg) &&& (255 : Int32))  (by assumption) (by rw [hv, own_ch_187_3_128_143, if_pos hc193])
          · refine own_end X Bd.notSynchronized (v := some (.int (0 : Int32))) (fun h => by rw [Bd.returns] at h; cases h) (fun fs hr => ?_) eT ?_ (by decide) (by decide)
            · show Steps p.tables e below (T.setTop (mkF m 193 #[.val (.ref b1), .val (.int u1), .val (.int u2), .val (.int en), .val (.int i), .val (.int j187_3_128_143_5), .val (.int (3 : Int32)), .val (.int (128 : Int32)), .val (.int (143 : Int32)), sl9, sl10] [(.int (3 : Int32)), (.int (en - i))])) _
              refine XS.icmpNo X.here hx rfl (hb hby d4_193) rfl (flt hc193).2.2.1 ?_
              show Steps p.tables e below (T.setTop (mkF m 196 #[.val (.ref b1), .val (.int u1), .val (.int u2), .val (.int en), .val (.int i), .val (.int j187_3_128_143_5), .val (.int (3 : Int32)), .val (.int (128 : Int32)), .val (.int (143 : Int32)), sl9, sl10] [])) _
              refine XS.iconst X.here hx rfl (hb hby d4_196) ?_
              show Steps p.tables e below (T.setTop (mkF m 197 #[.val (.ref b1), .val (.int u1), .val (.int u2), .val (.int en), .val (.int i), .val (.int j187_3_128_143_5), .val (.int (3 : Int32)), .val (.int (128 : Int32)), .val (.int (143 : Int32)), sl9, sl10] [(.int (0 : Int32))])) _
              exact retN X hx (t := .boolean) Bd.returns (by simp) (hb hby d4_197) hr
            · exact ⟨by rw [hu, own_u8A, if_pos hc10, if_pos (show own_ch_0 f_b1 en i = (0 : Int32) by rw [hv, own_ch_187_3_128_143, if_neg hc193])], N, rfl⟩
        have J187_2_160_191 : ∀ (T : State) (lc : List Loc), Stand p l e ({ frames := 0, cells := 0, slots := 0, locals := 0 } : Room) s m #[(.ref b1), (.int u1), (.int u2)] below meth c T lc 0 0 → Fr n0 lc → T.heap = h0 → ∀ (j187_2_160_191_5 : Int32), own_ch_0 f_b1 en i = own_ch_187_2_160_191 f_b1 en i j187_2_160_191_5 → own_Go p e below s (Q4 b1 cl_b1 f_b1 z_b1 u1 u2 h0 n0) ({ frames := 0, cells := 0, slots := 0, locals := 0 } : Room).cells ({ frames := 0, cells := 0, slots := 0, locals := 0 } : Room).slots (T.setTop (mkF m 187 #[.val (.ref b1), .val (.int u1), .val (.int u2), .val (.int en), .val (.int i), .val (.int j187_2_160_191_5), .val (.int (2 : Int32)), .val (.int (160 : Int32)), .val (.int (191 : Int32)), sl9, sl10] [])) := by
          intro T lc X N eT j187_2_160_191_5   hv
          refine own_go (b := T.setTop (mkF m 193 #[.val (.ref b1), .val (.int u1), .val (.int u2), .val (.int en), .val (.int i), .val (.int j187_2_160_191_5), .val (.int (2 : Int32)), .val (.int (160 : Int32)), .val (.int (191 : Int32)), sl9, sl10] [(.int (2 : Int32)), (.int (en - i))])) (fun t k => ?_) ?_
          · show Steps p.tables e below (T.setTop (mkF m 187 #[.val (.ref b1), .val (.int u1), .val (.int u2), .val (.int en), .val (.int i), .val (.int j187_2_160_191_5), .val (.int (2 : Int32)), .val (.int (160 : Int32)), .val (.int (191 : Int32)), sl9, sl10] [])) _
            refine XS.iloadN X.here hx rfl (hb hby d4_187) rfl ?_
            show Steps p.tables e below (T.setTop (mkF m 188 #[.val (.ref b1), .val (.int u1), .val (.int u2), .val (.int en), .val (.int i), .val (.int j187_2_160_191_5), .val (.int (2 : Int32)), .val (.int (160 : Int32)), .val (.int (191 : Int32)), sl9, sl10] [(.int en)])) _
            refine XS.iload X.here hx rfl (hb hby d4_188) rfl ?_
            show Steps p.tables e below (T.setTop (mkF m 190 #[.val (.ref b1), .val (.int u1), .val (.int u2), .val (.int en), .val (.int i), .val (.int j187_2_160_191_5), .val (.int (2 : Int32)), .val (.int (160 : Int32)), .val (.int (191 : Int32)), sl9, sl10] [(.int i), (.int en)])) _
            refine XS.isub X.here hx rfl (hb hby d4_190) rfl ?_
            show Steps p.tables e below (T.setTop (mkF m 191 #[.val (.ref b1), .val (.int u1), .val (.int u2), .val (.int en), .val (.int i), .val (.int j187_2_160_191_5), .val (.int (2 : Int32)), .val (.int (160 : Int32)), .val (.int (191 : Int32)), sl9, sl10] [(.int (en - i))])) _
            refine XS.iload X.here hx rfl (hb hby d4_191) rfl ?_
            show Steps p.tables e below (T.setTop (mkF m 193 #[.val (.ref b1), .val (.int u1), .val (.int u2), .val (.int en), .val (.int i), .val (.int j187_2_160_191_5), .val (.int (2 : Int32)), .val (.int (160 : Int32)), .val (.int (191 : Int32)), sl9, sl10] [(.int (2 : Int32)), (.int (en - i))])) _
            exact k
          by_cases hc193 : (2 : Int32) < (en - i)
          · have hi15 : ¬ (i + (1 : Int32)) < 0 ∧ (i + (1 : Int32)).toNatClampNeg < z_b1.toNatClampNeg := own_ixn j1 hc10 j2 hc193 (by decide)
            refine own_go (b := T.setTop (mkF m 210 #[.val (.ref b1), .val (.int u1), .val (.int u2), .val (.int en), .val (.int i), .val (.int j187_2_160_191_5), .val (.int (2 : Int32)), .val (.int (160 : Int32)), .val (.int (191 : Int32)), .val (.int ((f_b1 (i + (1 : Int32)).toNatClampNeg) &&& (255 : Int32))), sl10] [])) (fun t k => ?_) ?_
            · show Steps p.tables e below (T.setTop (mkF m 193 #[.val (.ref b1), .val (.int u1), .val (.int u2), .val (.int en), .val (.int i), .val (.int j187_2_160_191_5), .val (.int (2 : Int32)), .val (.int (160 : Int32)), .val (.int (191 : Int32)), sl9, sl10] [(.int (2 : Int32)), (.int (en - i))])) _
              refine XS.icmpYes X.here hx rfl (pc0 := 193) (pc' := 198) rfl (hb hby d4_193) rfl (tlt hc193).2.2.1 (by decide) (by decide) ?_
              show Steps p.tables e below (T.setTop (mkF m 198 #[.val (.ref b1), .val (.int u1), .val (.int u2), .val (.int en), .val (.int i), .val (.int j187_2_160_191_5), .val (.int (2 : Int32)), .val (.int (160 : Int32)), .val (.int (191 : Int32)), sl9, sl10] [])) _
              refine XS.aloadN X.here hx rfl (hb hby d4_198) rfl rfl ?_
              show Steps p.tables e below (T.setTop (mkF m 199 #[.val (.ref b1), .val (.int u1), .val (.int u2), .val (.int en), .val (.int i), .val (.int j187_2_160_191_5), .val (.int (2 : Int32)), .val (.int (160 : Int32)), .val (.int (191 : Int32)), sl9, sl10] [(.ref b1)])) _
              refine XS.iload X.here hx rfl (hb hby d4_199) rfl ?_
              show Steps p.tables e below (T.setTop (mkF m 201 #[.val (.ref b1), .val (.int u1), .val (.int u2), .val (.int en), .val (.int i), .val (.int j187_2_160_191_5), .val (.int (2 : Int32)), .val (.int (160 : Int32)), .val (.int (191 : Int32)), sl9, sl10] [(.int i), (.ref b1)])) _
              refine XS.iconst X.here hx rfl (hb hby d4_201) ?_
              show Steps p.tables e below (T.setTop (mkF m 202 #[.val (.ref b1), .val (.int u1), .val (.int u2), .val (.int en), .val (.int i), .val (.int j187_2_160_191_5), .val (.int (2 : Int32)), .val (.int (160 : Int32)), .val (.int (191 : Int32)), sl9, sl10] [(.int (1 : Int32)), (.int i), (.ref b1)])) _
              refine XS.iadd X.here hx rfl (hb hby d4_202) rfl ?_
              show Steps p.tables e below (T.setTop (mkF m 203 #[.val (.ref b1), .val (.int u1), .val (.int u2), .val (.int en), .val (.int i), .val (.int j187_2_160_191_5), .val (.int (2 : Int32)), .val (.int (160 : Int32)), .val (.int (191 : Int32)), sl9, sl10] [(.int (i + (1 : Int32))), (.ref b1)])) _
              refine X.baloadBytes hx (j := (i + (1 : Int32))) (v := (.int (f_b1 (i + (1 : Int32)).toNatClampNeg))) (by rw [eT]; exact Ar_b1.1) (State.isArrayOf_alike hZ.alike Ar_b1.2.1) Ar_b1.2.2 (own_hin S_b1 hi15) (H_b1 _ hi15.2) (g := (mkF m 203 #[.val (.ref b1), .val (.int u1), .val (.int u2), .val (.int en), .val (.int i), .val (.int j187_2_160_191_5), .val (.int (2 : Int32)), .val (.int (160 : Int32)), .val (.int (191 : Int32)), sl9, sl10] [(.int (i + (1 : Int32))), (.ref b1)])) rfl rfl (hb hby d4_203) _ ?_
              show Steps p.tables e below (T.setTop (mkF m 204 #[.val (.ref b1), .val (.int u1), .val (.int u2), .val (.int en), .val (.int i), .val (.int j187_2_160_191_5), .val (.int (2 : Int32)), .val (.int (160 : Int32)), .val (.int (191 : Int32)), sl9, sl10] [(.int (f_b1 (i + (1 : Int32)).toNatClampNeg))])) _
              refine XS.sipush X.here hx rfl (hb hby d4_204) ?_
              show Steps p.tables e below (T.setTop (mkF m 207 #[.val (.ref b1), .val (.int u1), .val (.int u2), .val (.int en), .val (.int i), .val (.int j187_2_160_191_5), .val (.int (2 : Int32)), .val (.int (160 : Int32)), .val (.int (191 : Int32)), sl9, sl10] [(.int (255 : Int32)), (.int (f_b1 (i + (1 : Int32)).toNatClampNeg))])) _
              refine XS.iand X.here hx rfl (hb hby d4_207) rfl ?_
              show Steps p.tables e below (T.setTop (mkF m 208 #[.val (.ref b1), .val (.int u1), .val (.int u2), .val (.int en), .val (.int i), .val (.int j187_2_160_191_5), .val (.int (2 : Int32)), .val (.int (160 : Int32)), .val (.int (191 : Int32)), sl9, sl10] [(.int ((f_b1 (i + (1 : Int32)).toNatClampNeg) &&& (255 : Int32)))])) _
              refine XS.istoreS X.here hx rfl (hb hby d4_208) rfl rfl o9 ?_
              show Steps p.tables e below (T.setTop (mkF m 210 #[.val (.ref b1), .val (.int u1), .val (.int u2), .val (.int en), .val (.int i), .val (.int j187_2_160_191_5), .val (.int (2 : Int32)), .val (.int (160 : Int32)), .val (.int (191 : Int32)), .val (.int ((f_b1 (i + (1 : Int32)).toNatClampNeg) &&& (255 : Int32))), sl10] [])) _
              exact k
            exact J210_2_160_191 T _ X N eT j187_2_160_191_5 ((f_b1 (i + (1 : Int32)).toNatClampNeg) &&& (255 : Int32))  (by assumption) (by rw [hv, own_ch_187_2_160_191, if_pos hc193])
          · refine own_end X Bd.notSynchronized (v := some (.int (0 : Int32))) (fun h => by rw [Bd.returns] at h; cases h) (fun fs hr => ?_) eT ?_ (by decide) (by decide)
            · show Steps p.tables e below (T.setTop (mkF m 193 #[.val (.ref b1), .val (.int u1), .val (.int u2), .val (.int en), .val (.int i), .val (.int j187_2_160_191_5), .val (.int (2 : Int32)), .val (.int (160 : Int32)), .val (.int (191 : Int32)), sl9, sl10] [(.int (2 : Int32)), (.int (en - i))])) _
              refine XS.icmpNo X.here hx rfl (hb hby d4_193) rfl (flt hc193).2.2.1 ?_
              show Steps p.tables e below (T.setTop (mkF m 196 #[.val (.ref b1), .val (.int u1), .val (.int u2), .val (.int en), .val (.int i), .val (.int j187_2_160_191_5), .val (.int (2 : Int32)), .val (.int (160 : Int32)), .val (.int (191 : Int32)), sl9, sl10] [])) _
              refine XS.iconst X.here hx rfl (hb hby d4_196) ?_
              show Steps p.tables e below (T.setTop (mkF m 197 #[.val (.ref b1), .val (.int u1), .val (.int u2), .val (.int en), .val (.int i), .val (.int j187_2_160_191_5), .val (.int (2 : Int32)), .val (.int (160 : Int32)), .val (.int (191 : Int32)), sl9, sl10] [(.int (0 : Int32))])) _
              exact retN X hx (t := .boolean) Bd.returns (by simp) (hb hby d4_197) hr
            · exact ⟨by rw [hu, own_u8A, if_pos hc10, if_pos (show own_ch_0 f_b1 en i = (0 : Int32) by rw [hv, own_ch_187_2_160_191, if_neg hc193])], N, rfl⟩
        have J187_2_160_159 : ∀ (T : State) (lc : List Loc), Stand p l e ({ frames := 0, cells := 0, slots := 0, locals := 0 } : Room) s m #[(.ref b1), (.int u1), (.int u2)] below meth c T lc 0 0 → Fr n0 lc → T.heap = h0 → ∀ (j187_2_160_159_5 : Int32), own_ch_0 f_b1 en i = own_ch_187_2_160_159 f_b1 en i j187_2_160_159_5 → own_Go p e below s (Q4 b1 cl_b1 f_b1 z_b1 u1 u2 h0 n0) ({ frames := 0, cells := 0, slots := 0, locals := 0 } : Room).cells ({ frames := 0, cells := 0, slots := 0, locals := 0 } : Room).slots (T.setTop (mkF m 187 #[.val (.ref b1), .val (.int u1), .val (.int u2), .val (.int en), .val (.int i), .val (.int j187_2_160_159_5), .val (.int (2 : Int32)), .val (.int (160 : Int32)), .val (.int (159 : Int32)), sl9, sl10] [])) := by
          intro T lc X N eT j187_2_160_159_5   hv
          refine own_go (b := T.setTop (mkF m 193 #[.val (.ref b1), .val (.int u1), .val (.int u2), .val (.int en), .val (.int i), .val (.int j187_2_160_159_5), .val (.int (2 : Int32)), .val (.int (160 : Int32)), .val (.int (159 : Int32)), sl9, sl10] [(.int (2 : Int32)), (.int (en - i))])) (fun t k => ?_) ?_
          · show Steps p.tables e below (T.setTop (mkF m 187 #[.val (.ref b1), .val (.int u1), .val (.int u2), .val (.int en), .val (.int i), .val (.int j187_2_160_159_5), .val (.int (2 : Int32)), .val (.int (160 : Int32)), .val (.int (159 : Int32)), sl9, sl10] [])) _
            refine XS.iloadN X.here hx rfl (hb hby d4_187) rfl ?_
            show Steps p.tables e below (T.setTop (mkF m 188 #[.val (.ref b1), .val (.int u1), .val (.int u2), .val (.int en), .val (.int i), .val (.int j187_2_160_159_5), .val (.int (2 : Int32)), .val (.int (160 : Int32)), .val (.int (159 : Int32)), sl9, sl10] [(.int en)])) _
            refine XS.iload X.here hx rfl (hb hby d4_188) rfl ?_
            show Steps p.tables e below (T.setTop (mkF m 190 #[.val (.ref b1), .val (.int u1), .val (.int u2), .val (.int en), .val (.int i), .val (.int j187_2_160_159_5), .val (.int (2 : Int32)), .val (.int (160 : Int32)), .val (.int (159 : Int32)), sl9, sl10] [(.int i), (.int en)])) _
            refine XS.isub X.here hx rfl (hb hby d4_190) rfl ?_
            show Steps p.tables e below (T.setTop (mkF m 191 #[.val (.ref b1), .val (.int u1), .val (.int u2), .val (.int en), .val (.int i), .val (.int j187_2_160_159_5), .val (.int (2 : Int32)), .val (.int (160 : Int32)), .val (.int (159 : Int32)), sl9, sl10] [(.int (en - i))])) _
            refine XS.iload X.here hx rfl (hb hby d4_191) rfl ?_
            show Steps p.tables e below (T.setTop (mkF m 193 #[.val (.ref b1), .val (.int u1), .val (.int u2), .val (.int en), .val (.int i), .val (.int j187_2_160_159_5), .val (.int (2 : Int32)), .val (.int (160 : Int32)), .val (.int (159 : Int32)), sl9, sl10] [(.int (2 : Int32)), (.int (en - i))])) _
            exact k
          by_cases hc193 : (2 : Int32) < (en - i)
          · have hi16 : ¬ (i + (1 : Int32)) < 0 ∧ (i + (1 : Int32)).toNatClampNeg < z_b1.toNatClampNeg := own_ixn j1 hc10 j2 hc193 (by decide)
            refine own_go (b := T.setTop (mkF m 210 #[.val (.ref b1), .val (.int u1), .val (.int u2), .val (.int en), .val (.int i), .val (.int j187_2_160_159_5), .val (.int (2 : Int32)), .val (.int (160 : Int32)), .val (.int (159 : Int32)), .val (.int ((f_b1 (i + (1 : Int32)).toNatClampNeg) &&& (255 : Int32))), sl10] [])) (fun t k => ?_) ?_
            · show Steps p.tables e below (T.setTop (mkF m 193 #[.val (.ref b1), .val (.int u1), .val (.int u2), .val (.int en), .val (.int i), .val (.int j187_2_160_159_5), .val (.int (2 : Int32)), .val (.int (160 : Int32)), .val (.int (159 : Int32)), sl9, sl10] [(.int (2 : Int32)), (.int (en - i))])) _
              refine XS.icmpYes X.here hx rfl (pc0 := 193) (pc' := 198) rfl (hb hby d4_193) rfl (tlt hc193).2.2.1 (by decide) (by decide) ?_
              show Steps p.tables e below (T.setTop (mkF m 198 #[.val (.ref b1), .val (.int u1), .val (.int u2), .val (.int en), .val (.int i), .val (.int j187_2_160_159_5), .val (.int (2 : Int32)), .val (.int (160 : Int32)), .val (.int (159 : Int32)), sl9, sl10] [])) _
              refine XS.aloadN X.here hx rfl (hb hby d4_198) rfl rfl ?_
              show Steps p.tables e below (T.setTop (mkF m 199 #[.val (.ref b1), .val (.int u1), .val (.int u2), .val (.int en), .val (.int i), .val (.int j187_2_160_159_5), .val (.int (2 : Int32)), .val (.int (160 : Int32)), .val (.int (159 : Int32)), sl9, sl10] [(.ref b1)])) _
              refine XS.iload X.here hx rfl (hb hby d4_199) rfl ?_
              show Steps p.tables e below (T.setTop (mkF m 201 #[.val (.ref b1), .val (.int u1), .val (.int u2), .val (.int en), .val (.int i), .val (.int j187_2_160_159_5), .val (.int (2 : Int32)), .val (.int (160 : Int32)), .val (.int (159 : Int32)), sl9, sl10] [(.int i), (.ref b1)])) _
              refine XS.iconst X.here hx rfl (hb hby d4_201) ?_
              show Steps p.tables e below (T.setTop (mkF m 202 #[.val (.ref b1), .val (.int u1), .val (.int u2), .val (.int en), .val (.int i), .val (.int j187_2_160_159_5), .val (.int (2 : Int32)), .val (.int (160 : Int32)), .val (.int (159 : Int32)), sl9, sl10] [(.int (1 : Int32)), (.int i), (.ref b1)])) _
              refine XS.iadd X.here hx rfl (hb hby d4_202) rfl ?_
              show Steps p.tables e below (T.setTop (mkF m 203 #[.val (.ref b1), .val (.int u1), .val (.int u2), .val (.int en), .val (.int i), .val (.int j187_2_160_159_5), .val (.int (2 : Int32)), .val (.int (160 : Int32)), .val (.int (159 : Int32)), sl9, sl10] [(.int (i + (1 : Int32))), (.ref b1)])) _
              refine X.baloadBytes hx (j := (i + (1 : Int32))) (v := (.int (f_b1 (i + (1 : Int32)).toNatClampNeg))) (by rw [eT]; exact Ar_b1.1) (State.isArrayOf_alike hZ.alike Ar_b1.2.1) Ar_b1.2.2 (own_hin S_b1 hi16) (H_b1 _ hi16.2) (g := (mkF m 203 #[.val (.ref b1), .val (.int u1), .val (.int u2), .val (.int en), .val (.int i), .val (.int j187_2_160_159_5), .val (.int (2 : Int32)), .val (.int (160 : Int32)), .val (.int (159 : Int32)), sl9, sl10] [(.int (i + (1 : Int32))), (.ref b1)])) rfl rfl (hb hby d4_203) _ ?_
              show Steps p.tables e below (T.setTop (mkF m 204 #[.val (.ref b1), .val (.int u1), .val (.int u2), .val (.int en), .val (.int i), .val (.int j187_2_160_159_5), .val (.int (2 : Int32)), .val (.int (160 : Int32)), .val (.int (159 : Int32)), sl9, sl10] [(.int (f_b1 (i + (1 : Int32)).toNatClampNeg))])) _
              refine XS.sipush X.here hx rfl (hb hby d4_204) ?_
              show Steps p.tables e below (T.setTop (mkF m 207 #[.val (.ref b1), .val (.int u1), .val (.int u2), .val (.int en), .val (.int i), .val (.int j187_2_160_159_5), .val (.int (2 : Int32)), .val (.int (160 : Int32)), .val (.int (159 : Int32)), sl9, sl10] [(.int (255 : Int32)), (.int (f_b1 (i + (1 : Int32)).toNatClampNeg))])) _
              refine XS.iand X.here hx rfl (hb hby d4_207) rfl ?_
              show Steps p.tables e below (T.setTop (mkF m 208 #[.val (.ref b1), .val (.int u1), .val (.int u2), .val (.int en), .val (.int i), .val (.int j187_2_160_159_5), .val (.int (2 : Int32)), .val (.int (160 : Int32)), .val (.int (159 : Int32)), sl9, sl10] [(.int ((f_b1 (i + (1 : Int32)).toNatClampNeg) &&& (255 : Int32)))])) _
              refine XS.istoreS X.here hx rfl (hb hby d4_208) rfl rfl o9 ?_
              show Steps p.tables e below (T.setTop (mkF m 210 #[.val (.ref b1), .val (.int u1), .val (.int u2), .val (.int en), .val (.int i), .val (.int j187_2_160_159_5), .val (.int (2 : Int32)), .val (.int (160 : Int32)), .val (.int (159 : Int32)), .val (.int ((f_b1 (i + (1 : Int32)).toNatClampNeg) &&& (255 : Int32))), sl10] [])) _
              exact k
            exact J210_2_160_159 T _ X N eT j187_2_160_159_5 ((f_b1 (i + (1 : Int32)).toNatClampNeg) &&& (255 : Int32))  (by assumption) (by rw [hv, own_ch_187_2_160_159, if_pos hc193])
          · refine own_end X Bd.notSynchronized (v := some (.int (0 : Int32))) (fun h => by rw [Bd.returns] at h; cases h) (fun fs hr => ?_) eT ?_ (by decide) (by decide)
            · show Steps p.tables e below (T.setTop (mkF m 193 #[.val (.ref b1), .val (.int u1), .val (.int u2), .val (.int en), .val (.int i), .val (.int j187_2_160_159_5), .val (.int (2 : Int32)), .val (.int (160 : Int32)), .val (.int (159 : Int32)), sl9, sl10] [(.int (2 : Int32)), (.int (en - i))])) _
              refine XS.icmpNo X.here hx rfl (hb hby d4_193) rfl (flt hc193).2.2.1 ?_
              show Steps p.tables e below (T.setTop (mkF m 196 #[.val (.ref b1), .val (.int u1), .val (.int u2), .val (.int en), .val (.int i), .val (.int j187_2_160_159_5), .val (.int (2 : Int32)), .val (.int (160 : Int32)), .val (.int (159 : Int32)), sl9, sl10] [])) _
              refine XS.iconst X.here hx rfl (hb hby d4_196) ?_
              show Steps p.tables e below (T.setTop (mkF m 197 #[.val (.ref b1), .val (.int u1), .val (.int u2), .val (.int en), .val (.int i), .val (.int j187_2_160_159_5), .val (.int (2 : Int32)), .val (.int (160 : Int32)), .val (.int (159 : Int32)), sl9, sl10] [(.int (0 : Int32))])) _
              exact retN X hx (t := .boolean) Bd.returns (by simp) (hb hby d4_197) hr
            · exact ⟨by rw [hu, own_u8A, if_pos hc10, if_pos (show own_ch_0 f_b1 en i = (0 : Int32) by rw [hv, own_ch_187_2_160_159, if_neg hc193])], N, rfl⟩
        have J187_2_128_191 : ∀ (T : State) (lc : List Loc), Stand p l e ({ frames := 0, cells := 0, slots := 0, locals := 0 } : Room) s m #[(.ref b1), (.int u1), (.int u2)] below meth c T lc 0 0 → Fr n0 lc → T.heap = h0 → ∀ (j187_2_128_191_5 : Int32), own_ch_0 f_b1 en i = own_ch_187_2_128_191 f_b1 en i j187_2_128_191_5 → own_Go p e below s (Q4 b1 cl_b1 f_b1 z_b1 u1 u2 h0 n0) ({ frames := 0, cells := 0, slots := 0, locals := 0 } : Room).cells ({ frames := 0, cells := 0, slots := 0, locals := 0 } : Room).slots (T.setTop (mkF m 187 #[.val (.ref b1), .val (.int u1), .val (.int u2), .val (.int en), .val (.int i), .val (.int j187_2_128_191_5), .val (.int (2 : Int32)), .val (.int (128 : Int32)), .val (.int (191 : Int32)), sl9, sl10] [])) := by
          intro T lc X N eT j187_2_128_191_5   hv
          refine own_go (b := T.setTop (mkF m 193 #[.val (.ref b1), .val (.int u1), .val (.int u2), .val (.int en), .val (.int i), .val (.int j187_2_128_191_5), .val (.int (2 : Int32)), .val (.int (128 : Int32)), .val (.int (191 : Int32)), sl9, sl10] [(.int (2 : Int32)), (.int (en - i))])) (fun t k => ?_) ?_
          · show Steps p.tables e below (T.setTop (mkF m 187 #[.val (.ref b1), .val (.int u1), .val (.int u2), .val (.int en), .val (.int i), .val (.int j187_2_128_191_5), .val (.int (2 : Int32)), .val (.int (128 : Int32)), .val (.int (191 : Int32)), sl9, sl10] [])) _
            refine XS.iloadN X.here hx rfl (hb hby d4_187) rfl ?_
            show Steps p.tables e below (T.setTop (mkF m 188 #[.val (.ref b1), .val (.int u1), .val (.int u2), .val (.int en), .val (.int i), .val (.int j187_2_128_191_5), .val (.int (2 : Int32)), .val (.int (128 : Int32)), .val (.int (191 : Int32)), sl9, sl10] [(.int en)])) _
            refine XS.iload X.here hx rfl (hb hby d4_188) rfl ?_
            show Steps p.tables e below (T.setTop (mkF m 190 #[.val (.ref b1), .val (.int u1), .val (.int u2), .val (.int en), .val (.int i), .val (.int j187_2_128_191_5), .val (.int (2 : Int32)), .val (.int (128 : Int32)), .val (.int (191 : Int32)), sl9, sl10] [(.int i), (.int en)])) _
            refine XS.isub X.here hx rfl (hb hby d4_190) rfl ?_
            show Steps p.tables e below (T.setTop (mkF m 191 #[.val (.ref b1), .val (.int u1), .val (.int u2), .val (.int en), .val (.int i), .val (.int j187_2_128_191_5), .val (.int (2 : Int32)), .val (.int (128 : Int32)), .val (.int (191 : Int32)), sl9, sl10] [(.int (en - i))])) _
            refine XS.iload X.here hx rfl (hb hby d4_191) rfl ?_
            show Steps p.tables e below (T.setTop (mkF m 193 #[.val (.ref b1), .val (.int u1), .val (.int u2), .val (.int en), .val (.int i), .val (.int j187_2_128_191_5), .val (.int (2 : Int32)), .val (.int (128 : Int32)), .val (.int (191 : Int32)), sl9, sl10] [(.int (2 : Int32)), (.int (en - i))])) _
            exact k
          by_cases hc193 : (2 : Int32) < (en - i)
          · have hi17 : ¬ (i + (1 : Int32)) < 0 ∧ (i + (1 : Int32)).toNatClampNeg < z_b1.toNatClampNeg := own_ixn j1 hc10 j2 hc193 (by decide)
            refine own_go (b := T.setTop (mkF m 210 #[.val (.ref b1), .val (.int u1), .val (.int u2), .val (.int en), .val (.int i), .val (.int j187_2_128_191_5), .val (.int (2 : Int32)), .val (.int (128 : Int32)), .val (.int (191 : Int32)), .val (.int ((f_b1 (i + (1 : Int32)).toNatClampNeg) &&& (255 : Int32))), sl10] [])) (fun t k => ?_) ?_
            · show Steps p.tables e below (T.setTop (mkF m 193 #[.val (.ref b1), .val (.int u1), .val (.int u2), .val (.int en), .val (.int i), .val (.int j187_2_128_191_5), .val (.int (2 : Int32)), .val (.int (128 : Int32)), .val (.int (191 : Int32)), sl9, sl10] [(.int (2 : Int32)), (.int (en - i))])) _
              refine XS.icmpYes X.here hx rfl (pc0 := 193) (pc' := 198) rfl (hb hby d4_193) rfl (tlt hc193).2.2.1 (by decide) (by decide) ?_
              show Steps p.tables e below (T.setTop (mkF m 198 #[.val (.ref b1), .val (.int u1), .val (.int u2), .val (.int en), .val (.int i), .val (.int j187_2_128_191_5), .val (.int (2 : Int32)), .val (.int (128 : Int32)), .val (.int (191 : Int32)), sl9, sl10] [])) _
              refine XS.aloadN X.here hx rfl (hb hby d4_198) rfl rfl ?_
              show Steps p.tables e below (T.setTop (mkF m 199 #[.val (.ref b1), .val (.int u1), .val (.int u2), .val (.int en), .val (.int i), .val (.int j187_2_128_191_5), .val (.int (2 : Int32)), .val (.int (128 : Int32)), .val (.int (191 : Int32)), sl9, sl10] [(.ref b1)])) _
              refine XS.iload X.here hx rfl (hb hby d4_199) rfl ?_
              show Steps p.tables e below (T.setTop (mkF m 201 #[.val (.ref b1), .val (.int u1), .val (.int u2), .val (.int en), .val (.int i), .val (.int j187_2_128_191_5), .val (.int (2 : Int32)), .val (.int (128 : Int32)), .val (.int (191 : Int32)), sl9, sl10] [(.int i), (.ref b1)])) _
              refine XS.iconst X.here hx rfl (hb hby d4_201) ?_
              show Steps p.tables e below (T.setTop (mkF m 202 #[.val (.ref b1), .val (.int u1), .val (.int u2), .val (.int en), .val (.int i), .val (.int j187_2_128_191_5), .val (.int (2 : Int32)), .val (.int (128 : Int32)), .val (.int (191 : Int32)), sl9, sl10] [(.int (1 : Int32)), (.int i), (.ref b1)])) _
              refine XS.iadd X.here hx rfl (hb hby d4_202) rfl ?_
              show Steps p.tables e below (T.setTop (mkF m 203 #[.val (.ref b1), .val (.int u1), .val (.int u2), .val (.int en), .val (.int i), .val (.int j187_2_128_191_5), .val (.int (2 : Int32)), .val (.int (128 : Int32)), .val (.int (191 : Int32)), sl9, sl10] [(.int (i + (1 : Int32))), (.ref b1)])) _
              refine X.baloadBytes hx (j := (i + (1 : Int32))) (v := (.int (f_b1 (i + (1 : Int32)).toNatClampNeg))) (by rw [eT]; exact Ar_b1.1) (State.isArrayOf_alike hZ.alike Ar_b1.2.1) Ar_b1.2.2 (own_hin S_b1 hi17) (H_b1 _ hi17.2) (g := (mkF m 203 #[.val (.ref b1), .val (.int u1), .val (.int u2), .val (.int en), .val (.int i), .val (.int j187_2_128_191_5), .val (.int (2 : Int32)), .val (.int (128 : Int32)), .val (.int (191 : Int32)), sl9, sl10] [(.int (i + (1 : Int32))), (.ref b1)])) rfl rfl (hb hby d4_203) _ ?_
              show Steps p.tables e below (T.setTop (mkF m 204 #[.val (.ref b1), .val (.int u1), .val (.int u2), .val (.int en), .val (.int i), .val (.int j187_2_128_191_5), .val (.int (2 : Int32)), .val (.int (128 : Int32)), .val (.int (191 : Int32)), sl9, sl10] [(.int (f_b1 (i + (1 : Int32)).toNatClampNeg))])) _
              refine XS.sipush X.here hx rfl (hb hby d4_204) ?_
              show Steps p.tables e below (T.setTop (mkF m 207 #[.val (.ref b1), .val (.int u1), .val (.int u2), .val (.int en), .val (.int i), .val (.int j187_2_128_191_5), .val (.int (2 : Int32)), .val (.int (128 : Int32)), .val (.int (191 : Int32)), sl9, sl10] [(.int (255 : Int32)), (.int (f_b1 (i + (1 : Int32)).toNatClampNeg))])) _
              refine XS.iand X.here hx rfl (hb hby d4_207) rfl ?_
              show Steps p.tables e below (T.setTop (mkF m 208 #[.val (.ref b1), .val (.int u1), .val (.int u2), .val (.int en), .val (.int i), .val (.int j187_2_128_191_5), .val (.int (2 : Int32)), .val (.int (128 : Int32)), .val (.int (191 : Int32)), sl9, sl10] [(.int ((f_b1 (i + (1 : Int32)).toNatClampNeg) &&& (255 : Int32)))])) _
              refine XS.istoreS X.here hx rfl (hb hby d4_208) rfl rfl o9 ?_
              show Steps p.tables e below (T.setTop (mkF m 210 #[.val (.ref b1), .val (.int u1), .val (.int u2), .val (.int en), .val (.int i), .val (.int j187_2_128_191_5), .val (.int (2 : Int32)), .val (.int (128 : Int32)), .val (.int (191 : Int32)), .val (.int ((f_b1 (i + (1 : Int32)).toNatClampNeg) &&& (255 : Int32))), sl10] [])) _
              exact k
            exact J210_2_128_191 T _ X N eT j187_2_128_191_5 ((f_b1 (i + (1 : Int32)).toNatClampNeg) &&& (255 : Int32))  (by assumption) (by rw [hv, own_ch_187_2_128_191, if_pos hc193])
          · refine own_end X Bd.notSynchronized (v := some (.int (0 : Int32))) (fun h => by rw [Bd.returns] at h; cases h) (fun fs hr => ?_) eT ?_ (by decide) (by decide)
            · show Steps p.tables e below (T.setTop (mkF m 193 #[.val (.ref b1), .val (.int u1), .val (.int u2), .val (.int en), .val (.int i), .val (.int j187_2_128_191_5), .val (.int (2 : Int32)), .val (.int (128 : Int32)), .val (.int (191 : Int32)), sl9, sl10] [(.int (2 : Int32)), (.int (en - i))])) _
              refine XS.icmpNo X.here hx rfl (hb hby d4_193) rfl (flt hc193).2.2.1 ?_
              show Steps p.tables e below (T.setTop (mkF m 196 #[.val (.ref b1), .val (.int u1), .val (.int u2), .val (.int en), .val (.int i), .val (.int j187_2_128_191_5), .val (.int (2 : Int32)), .val (.int (128 : Int32)), .val (.int (191 : Int32)), sl9, sl10] [])) _
              refine XS.iconst X.here hx rfl (hb hby d4_196) ?_
              show Steps p.tables e below (T.setTop (mkF m 197 #[.val (.ref b1), .val (.int u1), .val (.int u2), .val (.int en), .val (.int i), .val (.int j187_2_128_191_5), .val (.int (2 : Int32)), .val (.int (128 : Int32)), .val (.int (191 : Int32)), sl9, sl10] [(.int (0 : Int32))])) _
              exact retN X hx (t := .boolean) Bd.returns (by simp) (hb hby d4_197) hr
            · exact ⟨by rw [hu, own_u8A, if_pos hc10, if_pos (show own_ch_0 f_b1 en i = (0 : Int32) by rw [hv, own_ch_187_2_128_191, if_neg hc193])], N, rfl⟩
        have J187_2_128_159 : ∀ (T : State) (lc : List Loc), Stand p l e ({ frames := 0, cells := 0, slots := 0, locals := 0 } : Room) s m #[(.ref b1), (.int u1), (.int u2)] below meth c T lc 0 0 → Fr n0 lc → T.heap = h0 → ∀ (j187_2_128_159_5 : Int32), own_ch_0 f_b1 en i = own_ch_187_2_128_159 f_b1 en i j187_2_128_159_5 → own_Go p e below s (Q4 b1 cl_b1 f_b1 z_b1 u1 u2 h0 n0) ({ frames := 0, cells := 0, slots := 0, locals := 0 } : Room).cells ({ frames := 0, cells := 0, slots := 0, locals := 0 } : Room).slots (T.setTop (mkF m 187 #[.val (.ref b1), .val (.int u1), .val (.int u2), .val (.int en), .val (.int i), .val (.int j187_2_128_159_5), .val (.int (2 : Int32)), .val (.int (128 : Int32)), .val (.int (159 : Int32)), sl9, sl10] [])) := by
          intro T lc X N eT j187_2_128_159_5   hv
          refine own_go (b := T.setTop (mkF m 193 #[.val (.ref b1), .val (.int u1), .val (.int u2), .val (.int en), .val (.int i), .val (.int j187_2_128_159_5), .val (.int (2 : Int32)), .val (.int (128 : Int32)), .val (.int (159 : Int32)), sl9, sl10] [(.int (2 : Int32)), (.int (en - i))])) (fun t k => ?_) ?_
          · show Steps p.tables e below (T.setTop (mkF m 187 #[.val (.ref b1), .val (.int u1), .val (.int u2), .val (.int en), .val (.int i), .val (.int j187_2_128_159_5), .val (.int (2 : Int32)), .val (.int (128 : Int32)), .val (.int (159 : Int32)), sl9, sl10] [])) _
            refine XS.iloadN X.here hx rfl (hb hby d4_187) rfl ?_
            show Steps p.tables e below (T.setTop (mkF m 188 #[.val (.ref b1), .val (.int u1), .val (.int u2), .val (.int en), .val (.int i), .val (.int j187_2_128_159_5), .val (.int (2 : Int32)), .val (.int (128 : Int32)), .val (.int (159 : Int32)), sl9, sl10] [(.int en)])) _
            refine XS.iload X.here hx rfl (hb hby d4_188) rfl ?_
            show Steps p.tables e below (T.setTop (mkF m 190 #[.val (.ref b1), .val (.int u1), .val (.int u2), .val (.int en), .val (.int i), .val (.int j187_2_128_159_5), .val (.int (2 : Int32)), .val (.int (128 : Int32)), .val (.int (159 : Int32)), sl9, sl10] [(.int i), (.int en)])) _
            refine XS.isub X.here hx rfl (hb hby d4_190) rfl ?_
            show Steps p.tables e below (T.setTop (mkF m 191 #[.val (.ref b1), .val (.int u1), .val (.int u2), .val (.int en), .val (.int i), .val (.int j187_2_128_159_5), .val (.int (2 : Int32)), .val (.int (128 : Int32)), .val (.int (159 : Int32)), sl9, sl10] [(.int (en - i))])) _
            refine XS.iload X.here hx rfl (hb hby d4_191) rfl ?_
            show Steps p.tables e below (T.setTop (mkF m 193 #[.val (.ref b1), .val (.int u1), .val (.int u2), .val (.int en), .val (.int i), .val (.int j187_2_128_159_5), .val (.int (2 : Int32)), .val (.int (128 : Int32)), .val (.int (159 : Int32)), sl9, sl10] [(.int (2 : Int32)), (.int (en - i))])) _
            exact k
          by_cases hc193 : (2 : Int32) < (en - i)
          · have hi18 : ¬ (i + (1 : Int32)) < 0 ∧ (i + (1 : Int32)).toNatClampNeg < z_b1.toNatClampNeg := own_ixn j1 hc10 j2 hc193 (by decide)
            refine own_go (b := T.setTop (mkF m 210 #[.val (.ref b1), .val (.int u1), .val (.int u2), .val (.int en), .val (.int i), .val (.int j187_2_128_159_5), .val (.int (2 : Int32)), .val (.int (128 : Int32)), .val (.int (159 : Int32)), .val (.int ((f_b1 (i + (1 : Int32)).toNatClampNeg) &&& (255 : Int32))), sl10] [])) (fun t k => ?_) ?_
            · show Steps p.tables e below (T.setTop (mkF m 193 #[.val (.ref b1), .val (.int u1), .val (.int u2), .val (.int en), .val (.int i), .val (.int j187_2_128_159_5), .val (.int (2 : Int32)), .val (.int (128 : Int32)), .val (.int (159 : Int32)), sl9, sl10] [(.int (2 : Int32)), (.int (en - i))])) _
              refine XS.icmpYes X.here hx rfl (pc0 := 193) (pc' := 198) rfl (hb hby d4_193) rfl (tlt hc193).2.2.1 (by decide) (by decide) ?_
              show Steps p.tables e below (T.setTop (mkF m 198 #[.val (.ref b1), .val (.int u1), .val (.int u2), .val (.int en), .val (.int i), .val (.int j187_2_128_159_5), .val (.int (2 : Int32)), .val (.int (128 : Int32)), .val (.int (159 : Int32)), sl9, sl10] [])) _
              refine XS.aloadN X.here hx rfl (hb hby d4_198) rfl rfl ?_
              show Steps p.tables e below (T.setTop (mkF m 199 #[.val (.ref b1), .val (.int u1), .val (.int u2), .val (.int en), .val (.int i), .val (.int j187_2_128_159_5), .val (.int (2 : Int32)), .val (.int (128 : Int32)), .val (.int (159 : Int32)), sl9, sl10] [(.ref b1)])) _
              refine XS.iload X.here hx rfl (hb hby d4_199) rfl ?_
              show Steps p.tables e below (T.setTop (mkF m 201 #[.val (.ref b1), .val (.int u1), .val (.int u2), .val (.int en), .val (.int i), .val (.int j187_2_128_159_5), .val (.int (2 : Int32)), .val (.int (128 : Int32)), .val (.int (159 : Int32)), sl9, sl10] [(.int i), (.ref b1)])) _
              refine XS.iconst X.here hx rfl (hb hby d4_201) ?_
              show Steps p.tables e below (T.setTop (mkF m 202 #[.val (.ref b1), .val (.int u1), .val (.int u2), .val (.int en), .val (.int i), .val (.int j187_2_128_159_5), .val (.int (2 : Int32)), .val (.int (128 : Int32)), .val (.int (159 : Int32)), sl9, sl10] [(.int (1 : Int32)), (.int i), (.ref b1)])) _
              refine XS.iadd X.here hx rfl (hb hby d4_202) rfl ?_
              show Steps p.tables e below (T.setTop (mkF m 203 #[.val (.ref b1), .val (.int u1), .val (.int u2), .val (.int en), .val (.int i), .val (.int j187_2_128_159_5), .val (.int (2 : Int32)), .val (.int (128 : Int32)), .val (.int (159 : Int32)), sl9, sl10] [(.int (i + (1 : Int32))), (.ref b1)])) _
              refine X.baloadBytes hx (j := (i + (1 : Int32))) (v := (.int (f_b1 (i + (1 : Int32)).toNatClampNeg))) (by rw [eT]; exact Ar_b1.1) (State.isArrayOf_alike hZ.alike Ar_b1.2.1) Ar_b1.2.2 (own_hin S_b1 hi18) (H_b1 _ hi18.2) (g := (mkF m 203 #[.val (.ref b1), .val (.int u1), .val (.int u2), .val (.int en), .val (.int i), .val (.int j187_2_128_159_5), .val (.int (2 : Int32)), .val (.int (128 : Int32)), .val (.int (159 : Int32)), sl9, sl10] [(.int (i + (1 : Int32))), (.ref b1)])) rfl rfl (hb hby d4_203) _ ?_
              show Steps p.tables e below (T.setTop (mkF m 204 #[.val (.ref b1), .val (.int u1), .val (.int u2), .val (.int en), .val (.int i), .val (.int j187_2_128_159_5), .val (.int (2 : Int32)), .val (.int (128 : Int32)), .val (.int (159 : Int32)), sl9, sl10] [(.int (f_b1 (i + (1 : Int32)).toNatClampNeg))])) _
              refine XS.sipush X.here hx rfl (hb hby d4_204) ?_
              show Steps p.tables e below (T.setTop (mkF m 207 #[.val (.ref b1), .val (.int u1), .val (.int u2), .val (.int en), .val (.int i), .val (.int j187_2_128_159_5), .val (.int (2 : Int32)), .val (.int (128 : Int32)), .val (.int (159 : Int32)), sl9, sl10] [(.int (255 : Int32)), (.int (f_b1 (i + (1 : Int32)).toNatClampNeg))])) _
              refine XS.iand X.here hx rfl (hb hby d4_207) rfl ?_
              show Steps p.tables e below (T.setTop (mkF m 208 #[.val (.ref b1), .val (.int u1), .val (.int u2), .val (.int en), .val (.int i), .val (.int j187_2_128_159_5), .val (.int (2 : Int32)), .val (.int (128 : Int32)), .val (.int (159 : Int32)), sl9, sl10] [(.int ((f_b1 (i + (1 : Int32)).toNatClampNeg) &&& (255 : Int32)))])) _
              refine XS.istoreS X.here hx rfl (hb hby d4_208) rfl rfl o9 ?_
              show Steps p.tables e below (T.setTop (mkF m 210 #[.val (.ref b1), .val (.int u1), .val (.int u2), .val (.int en), .val (.int i), .val (.int j187_2_128_159_5), .val (.int (2 : Int32)), .val (.int (128 : Int32)), .val (.int (159 : Int32)), .val (.int ((f_b1 (i + (1 : Int32)).toNatClampNeg) &&& (255 : Int32))), sl10] [])) _
              exact k
            exact J210_2_128_159 T _ X N eT j187_2_128_159_5 ((f_b1 (i + (1 : Int32)).toNatClampNeg) &&& (255 : Int32))  (by assumption) (by rw [hv, own_ch_187_2_128_159, if_pos hc193])
          · refine own_end X Bd.notSynchronized (v := some (.int (0 : Int32))) (fun h => by rw [Bd.returns] at h; cases h) (fun fs hr => ?_) eT ?_ (by decide) (by decide)
            · show Steps p.tables e below (T.setTop (mkF m 193 #[.val (.ref b1), .val (.int u1), .val (.int u2), .val (.int en), .val (.int i), .val (.int j187_2_128_159_5), .val (.int (2 : Int32)), .val (.int (128 : Int32)), .val (.int (159 : Int32)), sl9, sl10] [(.int (2 : Int32)), (.int (en - i))])) _
              refine XS.icmpNo X.here hx rfl (hb hby d4_193) rfl (flt hc193).2.2.1 ?_
              show Steps p.tables e below (T.setTop (mkF m 196 #[.val (.ref b1), .val (.int u1), .val (.int u2), .val (.int en), .val (.int i), .val (.int j187_2_128_159_5), .val (.int (2 : Int32)), .val (.int (128 : Int32)), .val (.int (159 : Int32)), sl9, sl10] [])) _
              refine XS.iconst X.here hx rfl (hb hby d4_196) ?_
              show Steps p.tables e below (T.setTop (mkF m 197 #[.val (.ref b1), .val (.int u1), .val (.int u2), .val (.int en), .val (.int i), .val (.int j187_2_128_159_5), .val (.int (2 : Int32)), .val (.int (128 : Int32)), .val (.int (159 : Int32)), sl9, sl10] [(.int (0 : Int32))])) _
              exact retN X hx (t := .boolean) Bd.returns (by simp) (hb hby d4_197) hr
            · exact ⟨by rw [hu, own_u8A, if_pos hc10, if_pos (show own_ch_0 f_b1 en i = (0 : Int32) by rw [hv, own_ch_187_2_128_159, if_neg hc193])], N, rfl⟩
        have J187_1_128_191 : ∀ (T : State) (lc : List Loc), Stand p l e ({ frames := 0, cells := 0, slots := 0, locals := 0 } : Room) s m #[(.ref b1), (.int u1), (.int u2)] below meth c T lc 0 0 → Fr n0 lc → T.heap = h0 → ∀ (j187_1_128_191_5 : Int32), own_ch_0 f_b1 en i = own_ch_187_1_128_191 f_b1 en i j187_1_128_191_5 → own_Go p e below s (Q4 b1 cl_b1 f_b1 z_b1 u1 u2 h0 n0) ({ frames := 0, cells := 0, slots := 0, locals := 0 } : Room).cells ({ frames := 0, cells := 0, slots := 0, locals := 0 } : Room).slots (T.setTop (mkF m 187 #[.val (.ref b1), .val (.int u1), .val (.int u2), .val (.int en), .val (.int i), .val (.int j187_1_128_191_5), .val (.int (1 : Int32)), .val (.int (128 : Int32)), .val (.int (191 : Int32)), sl9, sl10] [])) := by
          intro T lc X N eT j187_1_128_191_5   hv
          refine own_go (b := T.setTop (mkF m 193 #[.val (.ref b1), .val (.int u1), .val (.int u2), .val (.int en), .val (.int i), .val (.int j187_1_128_191_5), .val (.int (1 : Int32)), .val (.int (128 : Int32)), .val (.int (191 : Int32)), sl9, sl10] [(.int (1 : Int32)), (.int (en - i))])) (fun t k => ?_) ?_
          · show Steps p.tables e below (T.setTop (mkF m 187 #[.val (.ref b1), .val (.int u1), .val (.int u2), .val (.int en), .val (.int i), .val (.int j187_1_128_191_5), .val (.int (1 : Int32)), .val (.int (128 : Int32)), .val (.int (191 : Int32)), sl9, sl10] [])) _
            refine XS.iloadN X.here hx rfl (hb hby d4_187) rfl ?_
            show Steps p.tables e below (T.setTop (mkF m 188 #[.val (.ref b1), .val (.int u1), .val (.int u2), .val (.int en), .val (.int i), .val (.int j187_1_128_191_5), .val (.int (1 : Int32)), .val (.int (128 : Int32)), .val (.int (191 : Int32)), sl9, sl10] [(.int en)])) _
            refine XS.iload X.here hx rfl (hb hby d4_188) rfl ?_
            show Steps p.tables e below (T.setTop (mkF m 190 #[.val (.ref b1), .val (.int u1), .val (.int u2), .val (.int en), .val (.int i), .val (.int j187_1_128_191_5), .val (.int (1 : Int32)), .val (.int (128 : Int32)), .val (.int (191 : Int32)), sl9, sl10] [(.int i), (.int en)])) _
            refine XS.isub X.here hx rfl (hb hby d4_190) rfl ?_
            show Steps p.tables e below (T.setTop (mkF m 191 #[.val (.ref b1), .val (.int u1), .val (.int u2), .val (.int en), .val (.int i), .val (.int j187_1_128_191_5), .val (.int (1 : Int32)), .val (.int (128 : Int32)), .val (.int (191 : Int32)), sl9, sl10] [(.int (en - i))])) _
            refine XS.iload X.here hx rfl (hb hby d4_191) rfl ?_
            show Steps p.tables e below (T.setTop (mkF m 193 #[.val (.ref b1), .val (.int u1), .val (.int u2), .val (.int en), .val (.int i), .val (.int j187_1_128_191_5), .val (.int (1 : Int32)), .val (.int (128 : Int32)), .val (.int (191 : Int32)), sl9, sl10] [(.int (1 : Int32)), (.int (en - i))])) _
            exact k
          by_cases hc193 : (1 : Int32) < (en - i)
          · have hi19 : ¬ (i + (1 : Int32)) < 0 ∧ (i + (1 : Int32)).toNatClampNeg < z_b1.toNatClampNeg := own_ixn j1 hc10 j2 hc193 (by decide)
            refine own_go (b := T.setTop (mkF m 210 #[.val (.ref b1), .val (.int u1), .val (.int u2), .val (.int en), .val (.int i), .val (.int j187_1_128_191_5), .val (.int (1 : Int32)), .val (.int (128 : Int32)), .val (.int (191 : Int32)), .val (.int ((f_b1 (i + (1 : Int32)).toNatClampNeg) &&& (255 : Int32))), sl10] [])) (fun t k => ?_) ?_
            · show Steps p.tables e below (T.setTop (mkF m 193 #[.val (.ref b1), .val (.int u1), .val (.int u2), .val (.int en), .val (.int i), .val (.int j187_1_128_191_5), .val (.int (1 : Int32)), .val (.int (128 : Int32)), .val (.int (191 : Int32)), sl9, sl10] [(.int (1 : Int32)), (.int (en - i))])) _
              refine XS.icmpYes X.here hx rfl (pc0 := 193) (pc' := 198) rfl (hb hby d4_193) rfl (tlt hc193).2.2.1 (by decide) (by decide) ?_
              show Steps p.tables e below (T.setTop (mkF m 198 #[.val (.ref b1), .val (.int u1), .val (.int u2), .val (.int en), .val (.int i), .val (.int j187_1_128_191_5), .val (.int (1 : Int32)), .val (.int (128 : Int32)), .val (.int (191 : Int32)), sl9, sl10] [])) _
              refine XS.aloadN X.here hx rfl (hb hby d4_198) rfl rfl ?_
              show Steps p.tables e below (T.setTop (mkF m 199 #[.val (.ref b1), .val (.int u1), .val (.int u2), .val (.int en), .val (.int i), .val (.int j187_1_128_191_5), .val (.int (1 : Int32)), .val (.int (128 : Int32)), .val (.int (191 : Int32)), sl9, sl10] [(.ref b1)])) _
              refine XS.iload X.here hx rfl (hb hby d4_199) rfl ?_
              show Steps p.tables e below (T.setTop (mkF m 201 #[.val (.ref b1), .val (.int u1), .val (.int u2), .val (.int en), .val (.int i), .val (.int j187_1_128_191_5), .val (.int (1 : Int32)), .val (.int (128 : Int32)), .val (.int (191 : Int32)), sl9, sl10] [(.int i), (.ref b1)])) _
              refine XS.iconst X.here hx rfl (hb hby d4_201) ?_
              show Steps p.tables e below (T.setTop (mkF m 202 #[.val (.ref b1), .val (.int u1), .val (.int u2), .val (.int en), .val (.int i), .val (.int j187_1_128_191_5), .val (.int (1 : Int32)), .val (.int (128 : Int32)), .val (.int (191 : Int32)), sl9, sl10] [(.int (1 : Int32)), (.int i), (.ref b1)])) _
              refine XS.iadd X.here hx rfl (hb hby d4_202) rfl ?_
              show Steps p.tables e below (T.setTop (mkF m 203 #[.val (.ref b1), .val (.int u1), .val (.int u2), .val (.int en), .val (.int i), .val (.int j187_1_128_191_5), .val (.int (1 : Int32)), .val (.int (128 : Int32)), .val (.int (191 : Int32)), sl9, sl10] [(.int (i + (1 : Int32))), (.ref b1)])) _
              refine X.baloadBytes hx (j := (i + (1 : Int32))) (v := (.int (f_b1 (i + (1 : Int32)).toNatClampNeg))) (by rw [eT]; exact Ar_b1.1) (State.isArrayOf_alike hZ.alike Ar_b1.2.1) Ar_b1.2.2 (own_hin S_b1 hi19) (H_b1 _ hi19.2) (g := (mkF m 203 #[.val (.ref b1), .val (.int u1), .val (.int u2), .val (.int en), .val (.int i), .val (.int j187_1_128_191_5), .val (.int (1 : Int32)), .val (.int (128 : Int32)), .val (.int (191 : Int32)), sl9, sl10] [(.int (i + (1 : Int32))), (.ref b1)])) rfl rfl (hb hby d4_203) _ ?_
              show Steps p.tables e below (T.setTop (mkF m 204 #[.val (.ref b1), .val (.int u1), .val (.int u2), .val (.int en), .val (.int i), .val (.int j187_1_128_191_5), .val (.int (1 : Int32)), .val (.int (128 : Int32)), .val (.int (191 : Int32)), sl9, sl10] [(.int (f_b1 (i + (1 : Int32)).toNatClampNeg))])) _
              refine XS.sipush X.here hx rfl (hb hby d4_204) ?_
              show Steps p.tables e below (T.setTop (mkF m 207 #[.val (.ref b1), .val (.int u1), .val (.int u2), .val (.int en), .val (.int i), .val (.int j187_1_128_191_5), .val (.int (1 : Int32)), .val (.int (128 : Int32)), .val (.int (191 : Int32)), sl9, sl10] [(.int (255 : Int32)), (.int (f_b1 (i + (1 : Int32)).toNatClampNeg))])) _
              refine XS.iand X.here hx rfl (hb hby d4_207) rfl ?_
              show Steps p.tables e below (T.setTop (mkF m 208 #[.val (.ref b1), .val (.int u1), .val (.int u2), .val (.int en), .val (.int i), .val (.int j187_1_128_191_5), .val (.int (1 : Int32)), .val (.int (128 : Int32)), .val (.int (191 : Int32)), sl9, sl10] [(.int ((f_b1 (i + (1 : Int32)).toNatClampNeg) &&& (255 : Int32)))])) _
              refine XS.istoreS X.here hx rfl (hb hby d4_208) rfl rfl o9 ?_
              show Steps p.tables e below (T.setTop (mkF m 210 #[.val (.ref b1), .val (.int u1), .val (.int u2), .val (.int en), .val (.int i), .val (.int j187_1_128_191_5), .val (.int (1 : Int32)), .val (.int (128 : Int32)), .val (.int (191 : Int32)), .val (.int ((f_b1 (i + (1 : Int32)).toNatClampNeg) &&& (255 : Int32))), sl10] [])) _
              exact k
            exact J210_1_128_191 T _ X N eT j187_1_128_191_5 ((f_b1 (i + (1 : Int32)).toNatClampNeg) &&& (255 : Int32))  (by assumption) (by rw [hv, own_ch_187_1_128_191, if_pos hc193])
          · refine own_end X Bd.notSynchronized (v := some (.int (0 : Int32))) (fun h => by rw [Bd.returns] at h; cases h) (fun fs hr => ?_) eT ?_ (by decide) (by decide)
            · show Steps p.tables e below (T.setTop (mkF m 193 #[.val (.ref b1), .val (.int u1), .val (.int u2), .val (.int en), .val (.int i), .val (.int j187_1_128_191_5), .val (.int (1 : Int32)), .val (.int (128 : Int32)), .val (.int (191 : Int32)), sl9, sl10] [(.int (1 : Int32)), (.int (en - i))])) _
              refine XS.icmpNo X.here hx rfl (hb hby d4_193) rfl (flt hc193).2.2.1 ?_
              show Steps p.tables e below (T.setTop (mkF m 196 #[.val (.ref b1), .val (.int u1), .val (.int u2), .val (.int en), .val (.int i), .val (.int j187_1_128_191_5), .val (.int (1 : Int32)), .val (.int (128 : Int32)), .val (.int (191 : Int32)), sl9, sl10] [])) _
              refine XS.iconst X.here hx rfl (hb hby d4_196) ?_
              show Steps p.tables e below (T.setTop (mkF m 197 #[.val (.ref b1), .val (.int u1), .val (.int u2), .val (.int en), .val (.int i), .val (.int j187_1_128_191_5), .val (.int (1 : Int32)), .val (.int (128 : Int32)), .val (.int (191 : Int32)), sl9, sl10] [(.int (0 : Int32))])) _
              exact retN X hx (t := .boolean) Bd.returns (by simp) (hb hby d4_197) hr
            · exact ⟨by rw [hu, own_u8A, if_pos hc10, if_pos (show own_ch_0 f_b1 en i = (0 : Int32) by rw [hv, own_ch_187_1_128_191, if_neg hc193])], N, rfl⟩
        have J127 : ∀ (T : State) (lc : List Loc), Stand p l e ({ frames := 0, cells := 0, slots := 0, locals := 0 } : Room) s m #[(.ref b1), (.int u1), (.int u2)] below meth c T lc 0 0 → Fr n0 lc → T.heap = h0 → ∀ (j127_5 : Int32), own_ch_0 f_b1 en i = own_ch_127 f_b1 en i j127_5 → own_Go p e below s (Q4 b1 cl_b1 f_b1 z_b1 u1 u2 h0 n0) ({ frames := 0, cells := 0, slots := 0, locals := 0 } : Room).cells ({ frames := 0, cells := 0, slots := 0, locals := 0 } : Room).slots (T.setTop (mkF m 127 #[.val (.ref b1), .val (.int u1), .val (.int u2), .val (.int en), .val (.int i), .val (.int j127_5), sl6, .val (.int (128 : Int32)), .val (.int (191 : Int32)), sl9, sl10] [])) := by
          intro T lc X N eT j127_5   hv
          refine own_go (b := T.setTop (mkF m 132 #[.val (.ref b1), .val (.int u1), .val (.int u2), .val (.int en), .val (.int i), .val (.int j127_5), sl6, .val (.int (128 : Int32)), .val (.int (191 : Int32)), sl9, sl10] [(.int (240 : Int32)), (.int j127_5)])) (fun t k => ?_) ?_
          · show Steps p.tables e below (T.setTop (mkF m 127 #[.val (.ref b1), .val (.int u1), .val (.int u2), .val (.int en), .val (.int i), .val (.int j127_5), sl6, .val (.int (128 : Int32)), .val (.int (191 : Int32)), sl9, sl10] [])) _
            refine XS.iload X.here hx rfl (hb hby d4_127) rfl ?_
            show Steps p.tables e below (T.setTop (mkF m 129 #[.val (.ref b1), .val (.int u1), .val (.int u2), .val (.int en), .val (.int i), .val (.int j127_5), sl6, .val (.int (128 : Int32)), .val (.int (191 : Int32)), sl9, sl10] [(.int j127_5)])) _
            refine XS.sipush X.here hx rfl (hb hby d4_129) ?_
            show Steps p.tables e below (T.setTop (mkF m 132 #[.val (.ref b1), .val (.int u1), .val (.int u2), .val (.int en), .val (.int i), .val (.int j127_5), sl6, .val (.int (128 : Int32)), .val (.int (191 : Int32)), sl9, sl10] [(.int (240 : Int32)), (.int j127_5)])) _
            exact k
          by_cases hc132 : j127_5 < (240 : Int32)
          · refine own_end X Bd.notSynchronized (v := some (.int (0 : Int32))) (fun h => by rw [Bd.returns] at h; cases h) (fun fs hr => ?_) eT ?_ (by decide) (by decide)
            · show Steps p.tables e below (T.setTop (mkF m 132 #[.val (.ref b1), .val (.int u1), .val (.int u2), .val (.int en), .val (.int i), .val (.int j127_5), sl6, .val (.int (128 : Int32)), .val (.int (191 : Int32)), sl9, sl10] [(.int (240 : Int32)), (.int j127_5)])) _
              refine XS.icmpYes X.here hx rfl (pc0 := 132) (pc' := 185) rfl (hb hby d4_132) rfl (tlt hc132).1 (by decide) (by decide) ?_
              show Steps p.tables e below (T.setTop (mkF m 185 #[.val (.ref b1), .val (.int u1), .val (.int u2), .val (.int en), .val (.int i), .val (.int j127_5), sl6, .val (.int (128 : Int32)), .val (.int (191 : Int32)), sl9, sl10] [])) _
              refine XS.iconst X.here hx rfl (hb hby d4_185) ?_
              show Steps p.tables e below (T.setTop (mkF m 186 #[.val (.ref b1), .val (.int u1), .val (.int u2), .val (.int en), .val (.int i), .val (.int j127_5), sl6, .val (.int (128 : Int32)), .val (.int (191 : Int32)), sl9, sl10] [(.int (0 : Int32))])) _
              exact retN X hx (t := .boolean) Bd.returns (by simp) (hb hby d4_186) hr
            · exact ⟨by rw [hu, own_u8A, if_pos hc10, if_pos (show own_ch_0 f_b1 en i = (0 : Int32) by rw [hv, own_ch_127, if_pos hc132])], N, rfl⟩
          · refine own_go (b := T.setTop (mkF m 140 #[.val (.ref b1), .val (.int u1), .val (.int u2), .val (.int en), .val (.int i), .val (.int j127_5), sl6, .val (.int (128 : Int32)), .val (.int (191 : Int32)), sl9, sl10] [(.int (244 : Int32)), (.int j127_5)])) (fun t k => ?_) ?_
            · show Steps p.tables e below (T.setTop (mkF m 132 #[.val (.ref b1), .val (.int u1), .val (.int u2), .val (.int en), .val (.int i), .val (.int j127_5), sl6, .val (.int (128 : Int32)), .val (.int (191 : Int32)), sl9, sl10] [(.int (240 : Int32)), (.int j127_5)])) _
              refine XS.icmpNo X.here hx rfl (hb hby d4_132) rfl (flt hc132).1 ?_
              show Steps p.tables e below (T.setTop (mkF m 135 #[.val (.ref b1), .val (.int u1), .val (.int u2), .val (.int en), .val (.int i), .val (.int j127_5), sl6, .val (.int (128 : Int32)), .val (.int (191 : Int32)), sl9, sl10] [])) _
              refine XS.iload X.here hx rfl (hb hby d4_135) rfl ?_
              show Steps p.tables e below (T.setTop (mkF m 137 #[.val (.ref b1), .val (.int u1), .val (.int u2), .val (.int en), .val (.int i), .val (.int j127_5), sl6, .val (.int (128 : Int32)), .val (.int (191 : Int32)), sl9, sl10] [(.int j127_5)])) _
              refine XS.sipush X.here hx rfl (hb hby d4_137) ?_
              show Steps p.tables e below (T.setTop (mkF m 140 #[.val (.ref b1), .val (.int u1), .val (.int u2), .val (.int en), .val (.int i), .val (.int j127_5), sl6, .val (.int (128 : Int32)), .val (.int (191 : Int32)), sl9, sl10] [(.int (244 : Int32)), (.int j127_5)])) _
              exact k
            by_cases hc140 : (244 : Int32) < j127_5
            · refine own_end X Bd.notSynchronized (v := some (.int (0 : Int32))) (fun h => by rw [Bd.returns] at h; cases h) (fun fs hr => ?_) eT ?_ (by decide) (by decide)
              · show Steps p.tables e below (T.setTop (mkF m 140 #[.val (.ref b1), .val (.int u1), .val (.int u2), .val (.int en), .val (.int i), .val (.int j127_5), sl6, .val (.int (128 : Int32)), .val (.int (191 : Int32)), sl9, sl10] [(.int (244 : Int32)), (.int j127_5)])) _
                refine XS.icmpYes X.here hx rfl (pc0 := 140) (pc' := 185) rfl (hb hby d4_140) rfl (tlt hc140).2.2.1 (by decide) (by decide) ?_
                show Steps p.tables e below (T.setTop (mkF m 185 #[.val (.ref b1), .val (.int u1), .val (.int u2), .val (.int en), .val (.int i), .val (.int j127_5), sl6, .val (.int (128 : Int32)), .val (.int (191 : Int32)), sl9, sl10] [])) _
                refine XS.iconst X.here hx rfl (hb hby d4_185) ?_
                show Steps p.tables e below (T.setTop (mkF m 186 #[.val (.ref b1), .val (.int u1), .val (.int u2), .val (.int en), .val (.int i), .val (.int j127_5), sl6, .val (.int (128 : Int32)), .val (.int (191 : Int32)), sl9, sl10] [(.int (0 : Int32))])) _
                exact retN X hx (t := .boolean) Bd.returns (by simp) (hb hby d4_186) hr
              · exact ⟨by rw [hu, own_u8A, if_pos hc10, if_pos (show own_ch_0 f_b1 en i = (0 : Int32) by rw [hv, own_ch_127, if_neg hc132, if_pos hc140])], N, rfl⟩
            · refine own_go (b := T.setTop (mkF m 151 #[.val (.ref b1), .val (.int u1), .val (.int u2), .val (.int en), .val (.int i), .val (.int j127_5), .val (.int (3 : Int32)), .val (.int (128 : Int32)), .val (.int (191 : Int32)), sl9, sl10] [(.int (240 : Int32)), (.int j127_5)])) (fun t k => ?_) ?_
              · show Steps p.tables e below (T.setTop (mkF m 140 #[.val (.ref b1), .val (.int u1), .val (.int u2), .val (.int en), .val (.int i), .val (.int j127_5), sl6, .val (.int (128 : Int32)), .val (.int (191 : Int32)), sl9, sl10] [(.int (244 : Int32)), (.int j127_5)])) _
                refine XS.icmpNo X.here hx rfl (hb hby d4_140) rfl (flt hc140).2.2.1 ?_
                show Steps p.tables e below (T.setTop (mkF m 143 #[.val (.ref b1), .val (.int u1), .val (.int u2), .val (.int en), .val (.int i), .val (.int j127_5), sl6, .val (.int (128 : Int32)), .val (.int (191 : Int32)), sl9, sl10] [])) _
                refine XS.iconst X.here hx rfl (hb hby d4_143) ?_
                show Steps p.tables e below (T.setTop (mkF m 144 #[.val (.ref b1), .val (.int u1), .val (.int u2), .val (.int en), .val (.int i), .val (.int j127_5), sl6, .val (.int (128 : Int32)), .val (.int (191 : Int32)), sl9, sl10] [(.int (3 : Int32))])) _
                refine XS.istoreS X.here hx rfl (hb hby d4_144) rfl rfl o6 ?_
                show Steps p.tables e below (T.setTop (mkF m 146 #[.val (.ref b1), .val (.int u1), .val (.int u2), .val (.int en), .val (.int i), .val (.int j127_5), .val (.int (3 : Int32)), .val (.int (128 : Int32)), .val (.int (191 : Int32)), sl9, sl10] [])) _
                refine XS.iload X.here hx rfl (hb hby d4_146) rfl ?_
                show Steps p.tables e below (T.setTop (mkF m 148 #[.val (.ref b1), .val (.int u1), .val (.int u2), .val (.int en), .val (.int i), .val (.int j127_5), .val (.int (3 : Int32)), .val (.int (128 : Int32)), .val (.int (191 : Int32)), sl9, sl10] [(.int j127_5)])) _
                refine XS.sipush X.here hx rfl (hb hby d4_148) ?_
                show Steps p.tables e below (T.setTop (mkF m 151 #[.val (.ref b1), .val (.int u1), .val (.int u2), .val (.int en), .val (.int i), .val (.int j127_5), .val (.int (3 : Int32)), .val (.int (128 : Int32)), .val (.int (191 : Int32)), sl9, sl10] [(.int (240 : Int32)), (.int j127_5)])) _
                exact k
              by_cases hc151 : j127_5 = (240 : Int32)
              · refine own_go (b := T.setTop (mkF m 169 #[.val (.ref b1), .val (.int u1), .val (.int u2), .val (.int en), .val (.int i), .val (.int j127_5), .val (.int (3 : Int32)), .val (.int (144 : Int32)), .val (.int (191 : Int32)), sl9, sl10] [(.int (244 : Int32)), (.int j127_5)])) (fun t k => ?_) ?_
                · show Steps p.tables e below (T.setTop (mkF m 151 #[.val (.ref b1), .val (.int u1), .val (.int u2), .val (.int en), .val (.int i), .val (.int j127_5), .val (.int (3 : Int32)), .val (.int (128 : Int32)), .val (.int (191 : Int32)), sl9, sl10] [(.int (240 : Int32)), (.int j127_5)])) _
                  refine XS.icmpNo X.here hx rfl (hb hby d4_151) rfl (teq hc151).2 ?_
                  show Steps p.tables e below (T.setTop (mkF m 154 #[.val (.ref b1), .val (.int u1), .val (.int u2), .val (.int en), .val (.int i), .val (.int j127_5), .val (.int (3 : Int32)), .val (.int (128 : Int32)), .val (.int (191 : Int32)), sl9, sl10] [])) _
                  refine XS.sipush X.here hx rfl (hb hby d4_154) ?_
                  show Steps p.tables e below (T.setTop (mkF m 157 #[.val (.ref b1), .val (.int u1), .val (.int u2), .val (.int en), .val (.int i), .val (.int j127_5), .val (.int (3 : Int32)), .val (.int (128 : Int32)), .val (.int (191 : Int32)), sl9, sl10] [(.int (144 : Int32))])) _
                  refine XS.goto X.here hx rfl (pc0 := 157) (pc' := 162) rfl (hb hby d4_157) (by decide) (by decide) ?_
                  show Steps p.tables e below (T.setTop (mkF m 162 #[.val (.ref b1), .val (.int u1), .val (.int u2), .val (.int en), .val (.int i), .val (.int j127_5), .val (.int (3 : Int32)), .val (.int (128 : Int32)), .val (.int (191 : Int32)), sl9, sl10] [(.int (144 : Int32))])) _
                  refine XS.istore X.here hx rfl (hb hby d4_162) rfl (l' := #[.val (.ref b1), .val (.int u1), .val (.int u2), .val (.int en), .val (.int i), .val (.int j127_5), .val (.int (3 : Int32)), .val (.int (144 : Int32)), .val (.int (191 : Int32)), sl9, sl10]) rfl ?_
                  show Steps p.tables e below (T.setTop (mkF m 164 #[.val (.ref b1), .val (.int u1), .val (.int u2), .val (.int en), .val (.int i), .val (.int j127_5), .val (.int (3 : Int32)), .val (.int (144 : Int32)), .val (.int (191 : Int32)), sl9, sl10] [])) _
                  refine XS.iload X.here hx rfl (hb hby d4_164) rfl ?_
                  show Steps p.tables e below (T.setTop (mkF m 166 #[.val (.ref b1), .val (.int u1), .val (.int u2), .val (.int en), .val (.int i), .val (.int j127_5), .val (.int (3 : Int32)), .val (.int (144 : Int32)), .val (.int (191 : Int32)), sl9, sl10] [(.int j127_5)])) _
                  refine XS.sipush X.here hx rfl (hb hby d4_166) ?_
                  show Steps p.tables e below (T.setTop (mkF m 169 #[.val (.ref b1), .val (.int u1), .val (.int u2), .val (.int en), .val (.int i), .val (.int j127_5), .val (.int (3 : Int32)), .val (.int (144 : Int32)), .val (.int (191 : Int32)), sl9, sl10] [(.int (244 : Int32)), (.int j127_5)])) _
                  exact k
                by_cases hc169 : j127_5 = (244 : Int32)
                · refine own_go (b := T.setTop (mkF m 187 #[.val (.ref b1), .val (.int u1), .val (.int u2), .val (.int en), .val (.int i), .val (.int j127_5), .val (.int (3 : Int32)), .val (.int (144 : Int32)), .val (.int (143 : Int32)), sl9, sl10] [])) (fun t k => ?_) ?_
                  · show Steps p.tables e below (T.setTop (mkF m 169 #[.val (.ref b1), .val (.int u1), .val (.int u2), .val (.int en), .val (.int i), .val (.int j127_5), .val (.int (3 : Int32)), .val (.int (144 : Int32)), .val (.int (191 : Int32)), sl9, sl10] [(.int (244 : Int32)), (.int j127_5)])) _
                    refine XS.icmpNo X.here hx rfl (hb hby d4_169) rfl (teq hc169).2 ?_
                    show Steps p.tables e below (T.setTop (mkF m 172 #[.val (.ref b1), .val (.int u1), .val (.int u2), .val (.int en), .val (.int i), .val (.int j127_5), .val (.int (3 : Int32)), .val (.int (144 : Int32)), .val (.int (191 : Int32)), sl9, sl10] [])) _
                    refine XS.sipush X.here hx rfl (hb hby d4_172) ?_
                    show Steps p.tables e below (T.setTop (mkF m 175 #[.val (.ref b1), .val (.int u1), .val (.int u2), .val (.int en), .val (.int i), .val (.int j127_5), .val (.int (3 : Int32)), .val (.int (144 : Int32)), .val (.int (191 : Int32)), sl9, sl10] [(.int (143 : Int32))])) _
                    refine XS.goto X.here hx rfl (pc0 := 175) (pc' := 180) rfl (hb hby d4_175) (by decide) (by decide) ?_
                    show Steps p.tables e below (T.setTop (mkF m 180 #[.val (.ref b1), .val (.int u1), .val (.int u2), .val (.int en), .val (.int i), .val (.int j127_5), .val (.int (3 : Int32)), .val (.int (144 : Int32)), .val (.int (191 : Int32)), sl9, sl10] [(.int (143 : Int32))])) _
                    refine XS.istore X.here hx rfl (hb hby d4_180) rfl (l' := #[.val (.ref b1), .val (.int u1), .val (.int u2), .val (.int en), .val (.int i), .val (.int j127_5), .val (.int (3 : Int32)), .val (.int (144 : Int32)), .val (.int (143 : Int32)), sl9, sl10]) rfl ?_
                    show Steps p.tables e below (T.setTop (mkF m 182 #[.val (.ref b1), .val (.int u1), .val (.int u2), .val (.int en), .val (.int i), .val (.int j127_5), .val (.int (3 : Int32)), .val (.int (144 : Int32)), .val (.int (143 : Int32)), sl9, sl10] [])) _
                    refine XS.goto X.here hx rfl (pc0 := 182) (pc' := 187) rfl (hb hby d4_182) (by decide) (by decide) ?_
                    show Steps p.tables e below (T.setTop (mkF m 187 #[.val (.ref b1), .val (.int u1), .val (.int u2), .val (.int en), .val (.int i), .val (.int j127_5), .val (.int (3 : Int32)), .val (.int (144 : Int32)), .val (.int (143 : Int32)), sl9, sl10] [])) _
                    exact k
                  exact J187_3_144_143 T _ X N eT j127_5   (by rw [hv, own_ch_127, if_neg hc132, if_neg hc140, if_pos hc151, if_pos hc169])
                · refine own_go (b := T.setTop (mkF m 187 #[.val (.ref b1), .val (.int u1), .val (.int u2), .val (.int en), .val (.int i), .val (.int j127_5), .val (.int (3 : Int32)), .val (.int (144 : Int32)), .val (.int (191 : Int32)), sl9, sl10] [])) (fun t k => ?_) ?_
                  · show Steps p.tables e below (T.setTop (mkF m 169 #[.val (.ref b1), .val (.int u1), .val (.int u2), .val (.int en), .val (.int i), .val (.int j127_5), .val (.int (3 : Int32)), .val (.int (144 : Int32)), .val (.int (191 : Int32)), sl9, sl10] [(.int (244 : Int32)), (.int j127_5)])) _
                    refine XS.icmpYes X.here hx rfl (pc0 := 169) (pc' := 178) rfl (hb hby d4_169) rfl (feq hc169).2 (by decide) (by decide) ?_
                    show Steps p.tables e below (T.setTop (mkF m 178 #[.val (.ref b1), .val (.int u1), .val (.int u2), .val (.int en), .val (.int i), .val (.int j127_5), .val (.int (3 : Int32)), .val (.int (144 : Int32)), .val (.int (191 : Int32)), sl9, sl10] [])) _
                    refine XS.iload X.here hx rfl (hb hby d4_178) rfl ?_
                    show Steps p.tables e below (T.setTop (mkF m 180 #[.val (.ref b1), .val (.int u1), .val (.int u2), .val (.int en), .val (.int i), .val (.int j127_5), .val (.int (3 : Int32)), .val (.int (144 : Int32)), .val (.int (191 : Int32)), sl9, sl10] [(.int (191 : Int32))])) _
                    refine XS.istore X.here hx rfl (hb hby d4_180) rfl (l' := #[.val (.ref b1), .val (.int u1), .val (.int u2), .val (.int en), .val (.int i), .val (.int j127_5), .val (.int (3 : Int32)), .val (.int (144 : Int32)), .val (.int (191 : Int32)), sl9, sl10]) rfl ?_
                    show Steps p.tables e below (T.setTop (mkF m 182 #[.val (.ref b1), .val (.int u1), .val (.int u2), .val (.int en), .val (.int i), .val (.int j127_5), .val (.int (3 : Int32)), .val (.int (144 : Int32)), .val (.int (191 : Int32)), sl9, sl10] [])) _
                    refine XS.goto X.here hx rfl (pc0 := 182) (pc' := 187) rfl (hb hby d4_182) (by decide) (by decide) ?_
                    show Steps p.tables e below (T.setTop (mkF m 187 #[.val (.ref b1), .val (.int u1), .val (.int u2), .val (.int en), .val (.int i), .val (.int j127_5), .val (.int (3 : Int32)), .val (.int (144 : Int32)), .val (.int (191 : Int32)), sl9, sl10] [])) _
                    exact k
                  exact J187_3_144_191 T _ X N eT j127_5   (by rw [hv, own_ch_127, if_neg hc132, if_neg hc140, if_pos hc151, if_neg hc169])
              · refine own_go (b := T.setTop (mkF m 169 #[.val (.ref b1), .val (.int u1), .val (.int u2), .val (.int en), .val (.int i), .val (.int j127_5), .val (.int (3 : Int32)), .val (.int (128 : Int32)), .val (.int (191 : Int32)), sl9, sl10] [(.int (244 : Int32)), (.int j127_5)])) (fun t k => ?_) ?_
                · show Steps p.tables e below (T.setTop (mkF m 151 #[.val (.ref b1), .val (.int u1), .val (.int u2), .val (.int en), .val (.int i), .val (.int j127_5), .val (.int (3 : Int32)), .val (.int (128 : Int32)), .val (.int (191 : Int32)), sl9, sl10] [(.int (240 : Int32)), (.int j127_5)])) _
                  refine XS.icmpYes X.here hx rfl (pc0 := 151) (pc' := 160) rfl (hb hby d4_151) rfl (feq hc151).2 (by decide) (by decide) ?_
                  show Steps p.tables e below (T.setTop (mkF m 160 #[.val (.ref b1), .val (.int u1), .val (.int u2), .val (.int en), .val (.int i), .val (.int j127_5), .val (.int (3 : Int32)), .val (.int (128 : Int32)), .val (.int (191 : Int32)), sl9, sl10] [])) _
                  refine XS.iload X.here hx rfl (hb hby d4_160) rfl ?_
                  show Steps p.tables e below (T.setTop (mkF m 162 #[.val (.ref b1), .val (.int u1), .val (.int u2), .val (.int en), .val (.int i), .val (.int j127_5), .val (.int (3 : Int32)), .val (.int (128 : Int32)), .val (.int (191 : Int32)), sl9, sl10] [(.int (128 : Int32))])) _
                  refine XS.istore X.here hx rfl (hb hby d4_162) rfl (l' := #[.val (.ref b1), .val (.int u1), .val (.int u2), .val (.int en), .val (.int i), .val (.int j127_5), .val (.int (3 : Int32)), .val (.int (128 : Int32)), .val (.int (191 : Int32)), sl9, sl10]) rfl ?_
                  show Steps p.tables e below (T.setTop (mkF m 164 #[.val (.ref b1), .val (.int u1), .val (.int u2), .val (.int en), .val (.int i), .val (.int j127_5), .val (.int (3 : Int32)), .val (.int (128 : Int32)), .val (.int (191 : Int32)), sl9, sl10] [])) _
                  refine XS.iload X.here hx rfl (hb hby d4_164) rfl ?_
                  show Steps p.tables e below (T.setTop (mkF m 166 #[.val (.ref b1), .val (.int u1), .val (.int u2), .val (.int en), .val (.int i), .val (.int j127_5), .val (.int (3 : Int32)), .val (.int (128 : Int32)), .val (.int (191 : Int32)), sl9, sl10] [(.int j127_5)])) _
                  refine XS.sipush X.here hx rfl (hb hby d4_166) ?_
                  show Steps p.tables e below (T.setTop (mkF m 169 #[.val (.ref b1), .val (.int u1), .val (.int u2), .val (.int en), .val (.int i), .val (.int j127_5), .val (.int (3 : Int32)), .val (.int (128 : Int32)), .val (.int (191 : Int32)), sl9, sl10] [(.int (244 : Int32)), (.int j127_5)])) _
                  exact k
                by_cases hc169 : j127_5 = (244 : Int32)
                · refine own_go (b := T.setTop (mkF m 187 #[.val (.ref b1), .val (.int u1), .val (.int u2), .val (.int en), .val (.int i), .val (.int j127_5), .val (.int (3 : Int32)), .val (.int (128 : Int32)), .val (.int (143 : Int32)), sl9, sl10] [])) (fun t k => ?_) ?_
                  · show Steps p.tables e below (T.setTop (mkF m 169 #[.val (.ref b1), .val (.int u1), .val (.int u2), .val (.int en), .val (.int i), .val (.int j127_5), .val (.int (3 : Int32)), .val (.int (128 : Int32)), .val (.int (191 : Int32)), sl9, sl10] [(.int (244 : Int32)), (.int j127_5)])) _
                    refine XS.icmpNo X.here hx rfl (hb hby d4_169) rfl (teq hc169).2 ?_
                    show Steps p.tables e below (T.setTop (mkF m 172 #[.val (.ref b1), .val (.int u1), .val (.int u2), .val (.int en), .val (.int i), .val (.int j127_5), .val (.int (3 : Int32)), .val (.int (128 : Int32)), .val (.int (191 : Int32)), sl9, sl10] [])) _
                    refine XS.sipush X.here hx rfl (hb hby d4_172) ?_
                    show Steps p.tables e below (T.setTop (mkF m 175 #[.val (.ref b1), .val (.int u1), .val (.int u2), .val (.int en), .val (.int i), .val (.int j127_5), .val (.int (3 : Int32)), .val (.int (128 : Int32)), .val (.int (191 : Int32)), sl9, sl10] [(.int (143 : Int32))])) _
                    refine XS.goto X.here hx rfl (pc0 := 175) (pc' := 180) rfl (hb hby d4_175) (by decide) (by decide) ?_
                    show Steps p.tables e below (T.setTop (mkF m 180 #[.val (.ref b1), .val (.int u1), .val (.int u2), .val (.int en), .val (.int i), .val (.int j127_5), .val (.int (3 : Int32)), .val (.int (128 : Int32)), .val (.int (191 : Int32)), sl9, sl10] [(.int (143 : Int32))])) _
                    refine XS.istore X.here hx rfl (hb hby d4_180) rfl (l' := #[.val (.ref b1), .val (.int u1), .val (.int u2), .val (.int en), .val (.int i), .val (.int j127_5), .val (.int (3 : Int32)), .val (.int (128 : Int32)), .val (.int (143 : Int32)), sl9, sl10]) rfl ?_
                    show Steps p.tables e below (T.setTop (mkF m 182 #[.val (.ref b1), .val (.int u1), .val (.int u2), .val (.int en), .val (.int i), .val (.int j127_5), .val (.int (3 : Int32)), .val (.int (128 : Int32)), .val (.int (143 : Int32)), sl9, sl10] [])) _
                    refine XS.goto X.here hx rfl (pc0 := 182) (pc' := 187) rfl (hb hby d4_182) (by decide) (by decide) ?_
                    show Steps p.tables e below (T.setTop (mkF m 187 #[.val (.ref b1), .val (.int u1), .val (.int u2), .val (.int en), .val (.int i), .val (.int j127_5), .val (.int (3 : Int32)), .val (.int (128 : Int32)), .val (.int (143 : Int32)), sl9, sl10] [])) _
                    exact k
                  exact J187_3_128_143 T _ X N eT j127_5   (by rw [hv, own_ch_127, if_neg hc132, if_neg hc140, if_neg hc151, if_pos hc169])
                · refine own_go (b := T.setTop (mkF m 187 #[.val (.ref b1), .val (.int u1), .val (.int u2), .val (.int en), .val (.int i), .val (.int j127_5), .val (.int (3 : Int32)), .val (.int (128 : Int32)), .val (.int (191 : Int32)), sl9, sl10] [])) (fun t k => ?_) ?_
                  · show Steps p.tables e below (T.setTop (mkF m 169 #[.val (.ref b1), .val (.int u1), .val (.int u2), .val (.int en), .val (.int i), .val (.int j127_5), .val (.int (3 : Int32)), .val (.int (128 : Int32)), .val (.int (191 : Int32)), sl9, sl10] [(.int (244 : Int32)), (.int j127_5)])) _
                    refine XS.icmpYes X.here hx rfl (pc0 := 169) (pc' := 178) rfl (hb hby d4_169) rfl (feq hc169).2 (by decide) (by decide) ?_
                    show Steps p.tables e below (T.setTop (mkF m 178 #[.val (.ref b1), .val (.int u1), .val (.int u2), .val (.int en), .val (.int i), .val (.int j127_5), .val (.int (3 : Int32)), .val (.int (128 : Int32)), .val (.int (191 : Int32)), sl9, sl10] [])) _
                    refine XS.iload X.here hx rfl (hb hby d4_178) rfl ?_
                    show Steps p.tables e below (T.setTop (mkF m 180 #[.val (.ref b1), .val (.int u1), .val (.int u2), .val (.int en), .val (.int i), .val (.int j127_5), .val (.int (3 : Int32)), .val (.int (128 : Int32)), .val (.int (191 : Int32)), sl9, sl10] [(.int (191 : Int32))])) _
                    refine XS.istore X.here hx rfl (hb hby d4_180) rfl (l' := #[.val (.ref b1), .val (.int u1), .val (.int u2), .val (.int en), .val (.int i), .val (.int j127_5), .val (.int (3 : Int32)), .val (.int (128 : Int32)), .val (.int (191 : Int32)), sl9, sl10]) rfl ?_
                    show Steps p.tables e below (T.setTop (mkF m 182 #[.val (.ref b1), .val (.int u1), .val (.int u2), .val (.int en), .val (.int i), .val (.int j127_5), .val (.int (3 : Int32)), .val (.int (128 : Int32)), .val (.int (191 : Int32)), sl9, sl10] [])) _
                    refine XS.goto X.here hx rfl (pc0 := 182) (pc' := 187) rfl (hb hby d4_182) (by decide) (by decide) ?_
                    show Steps p.tables e below (T.setTop (mkF m 187 #[.val (.ref b1), .val (.int u1), .val (.int u2), .val (.int en), .val (.int i), .val (.int j127_5), .val (.int (3 : Int32)), .val (.int (128 : Int32)), .val (.int (191 : Int32)), sl9, sl10] [])) _
                    exact k
                  exact J187_3_128_191 T _ X N eT j127_5   (by rw [hv, own_ch_127, if_neg hc132, if_neg hc140, if_neg hc151, if_neg hc169])
        have J69 : ∀ (T : State) (lc : List Loc), Stand p l e ({ frames := 0, cells := 0, slots := 0, locals := 0 } : Room) s m #[(.ref b1), (.int u1), (.int u2)] below meth c T lc 0 0 → Fr n0 lc → T.heap = h0 → ∀ (j69_5 : Int32), own_ch_0 f_b1 en i = own_ch_69 f_b1 en i j69_5 → own_Go p e below s (Q4 b1 cl_b1 f_b1 z_b1 u1 u2 h0 n0) ({ frames := 0, cells := 0, slots := 0, locals := 0 } : Room).cells ({ frames := 0, cells := 0, slots := 0, locals := 0 } : Room).slots (T.setTop (mkF m 69 #[.val (.ref b1), .val (.int u1), .val (.int u2), .val (.int en), .val (.int i), .val (.int j69_5), sl6, .val (.int (128 : Int32)), .val (.int (191 : Int32)), sl9, sl10] [])) := by
          intro T lc X N eT j69_5   hv
          refine own_go (b := T.setTop (mkF m 74 #[.val (.ref b1), .val (.int u1), .val (.int u2), .val (.int en), .val (.int i), .val (.int j69_5), sl6, .val (.int (128 : Int32)), .val (.int (191 : Int32)), sl9, sl10] [(.int (224 : Int32)), (.int j69_5)])) (fun t k => ?_) ?_
          · show Steps p.tables e below (T.setTop (mkF m 69 #[.val (.ref b1), .val (.int u1), .val (.int u2), .val (.int en), .val (.int i), .val (.int j69_5), sl6, .val (.int (128 : Int32)), .val (.int (191 : Int32)), sl9, sl10] [])) _
            refine XS.iload X.here hx rfl (hb hby d4_69) rfl ?_
            show Steps p.tables e below (T.setTop (mkF m 71 #[.val (.ref b1), .val (.int u1), .val (.int u2), .val (.int en), .val (.int i), .val (.int j69_5), sl6, .val (.int (128 : Int32)), .val (.int (191 : Int32)), sl9, sl10] [(.int j69_5)])) _
            refine XS.sipush X.here hx rfl (hb hby d4_71) ?_
            show Steps p.tables e below (T.setTop (mkF m 74 #[.val (.ref b1), .val (.int u1), .val (.int u2), .val (.int en), .val (.int i), .val (.int j69_5), sl6, .val (.int (128 : Int32)), .val (.int (191 : Int32)), sl9, sl10] [(.int (224 : Int32)), (.int j69_5)])) _
            exact k
          by_cases hc74 : j69_5 < (224 : Int32)
          · refine own_go (b := T.setTop (mkF m 127 #[.val (.ref b1), .val (.int u1), .val (.int u2), .val (.int en), .val (.int i), .val (.int j69_5), sl6, .val (.int (128 : Int32)), .val (.int (191 : Int32)), sl9, sl10] [])) (fun t k => ?_) ?_
            · show Steps p.tables e below (T.setTop (mkF m 74 #[.val (.ref b1), .val (.int u1), .val (.int u2), .val (.int en), .val (.int i), .val (.int j69_5), sl6, .val (.int (128 : Int32)), .val (.int (191 : Int32)), sl9, sl10] [(.int (224 : Int32)), (.int j69_5)])) _
              refine XS.icmpYes X.here hx rfl (pc0 := 74) (pc' := 127) rfl (hb hby d4_74) rfl (tlt hc74).1 (by decide) (by decide) ?_
              show Steps p.tables e below (T.setTop (mkF m 127 #[.val (.ref b1), .val (.int u1), .val (.int u2), .val (.int en), .val (.int i), .val (.int j69_5), sl6, .val (.int (128 : Int32)), .val (.int (191 : Int32)), sl9, sl10] [])) _
              exact k
            exact J127 T _ X N eT j69_5   (by rw [hv, own_ch_69, if_pos hc74])
          · refine own_go (b := T.setTop (mkF m 82 #[.val (.ref b1), .val (.int u1), .val (.int u2), .val (.int en), .val (.int i), .val (.int j69_5), sl6, .val (.int (128 : Int32)), .val (.int (191 : Int32)), sl9, sl10] [(.int (239 : Int32)), (.int j69_5)])) (fun t k => ?_) ?_
            · show Steps p.tables e below (T.setTop (mkF m 74 #[.val (.ref b1), .val (.int u1), .val (.int u2), .val (.int en), .val (.int i), .val (.int j69_5), sl6, .val (.int (128 : Int32)), .val (.int (191 : Int32)), sl9, sl10] [(.int (224 : Int32)), (.int j69_5)])) _
              refine XS.icmpNo X.here hx rfl (hb hby d4_74) rfl (flt hc74).1 ?_
              show Steps p.tables e below (T.setTop (mkF m 77 #[.val (.ref b1), .val (.int u1), .val (.int u2), .val (.int en), .val (.int i), .val (.int j69_5), sl6, .val (.int (128 : Int32)), .val (.int (191 : Int32)), sl9, sl10] [])) _
              refine XS.iload X.here hx rfl (hb hby d4_77) rfl ?_
              show Steps p.tables e below (T.setTop (mkF m 79 #[.val (.ref b1), .val (.int u1), .val (.int u2), .val (.int en), .val (.int i), .val (.int j69_5), sl6, .val (.int (128 : Int32)), .val (.int (191 : Int32)), sl9, sl10] [(.int j69_5)])) _
              refine XS.sipush X.here hx rfl (hb hby d4_79) ?_
              show Steps p.tables e below (T.setTop (mkF m 82 #[.val (.ref b1), .val (.int u1), .val (.int u2), .val (.int en), .val (.int i), .val (.int j69_5), sl6, .val (.int (128 : Int32)), .val (.int (191 : Int32)), sl9, sl10] [(.int (239 : Int32)), (.int j69_5)])) _
              exact k
            by_cases hc82 : (239 : Int32) < j69_5
            · refine own_go (b := T.setTop (mkF m 127 #[.val (.ref b1), .val (.int u1), .val (.int u2), .val (.int en), .val (.int i), .val (.int j69_5), sl6, .val (.int (128 : Int32)), .val (.int (191 : Int32)), sl9, sl10] [])) (fun t k => ?_) ?_
              · show Steps p.tables e below (T.setTop (mkF m 82 #[.val (.ref b1), .val (.int u1), .val (.int u2), .val (.int en), .val (.int i), .val (.int j69_5), sl6, .val (.int (128 : Int32)), .val (.int (191 : Int32)), sl9, sl10] [(.int (239 : Int32)), (.int j69_5)])) _
                refine XS.icmpYes X.here hx rfl (pc0 := 82) (pc' := 127) rfl (hb hby d4_82) rfl (tlt hc82).2.2.1 (by decide) (by decide) ?_
                show Steps p.tables e below (T.setTop (mkF m 127 #[.val (.ref b1), .val (.int u1), .val (.int u2), .val (.int en), .val (.int i), .val (.int j69_5), sl6, .val (.int (128 : Int32)), .val (.int (191 : Int32)), sl9, sl10] [])) _
                exact k
              exact J127 T _ X N eT j69_5   (by rw [hv, own_ch_69, if_neg hc74, if_pos hc82])
            · refine own_go (b := T.setTop (mkF m 93 #[.val (.ref b1), .val (.int u1), .val (.int u2), .val (.int en), .val (.int i), .val (.int j69_5), .val (.int (2 : Int32)), .val (.int (128 : Int32)), .val (.int (191 : Int32)), sl9, sl10] [(.int (224 : Int32)), (.int j69_5)])) (fun t k => ?_) ?_
              · show Steps p.tables e below (T.setTop (mkF m 82 #[.val (.ref b1), .val (.int u1), .val (.int u2), .val (.int en), .val (.int i), .val (.int j69_5), sl6, .val (.int (128 : Int32)), .val (.int (191 : Int32)), sl9, sl10] [(.int (239 : Int32)), (.int j69_5)])) _
                refine XS.icmpNo X.here hx rfl (hb hby d4_82) rfl (flt hc82).2.2.1 ?_
                show Steps p.tables e below (T.setTop (mkF m 85 #[.val (.ref b1), .val (.int u1), .val (.int u2), .val (.int en), .val (.int i), .val (.int j69_5), sl6, .val (.int (128 : Int32)), .val (.int (191 : Int32)), sl9, sl10] [])) _
                refine XS.iconst X.here hx rfl (hb hby d4_85) ?_
                show Steps p.tables e below (T.setTop (mkF m 86 #[.val (.ref b1), .val (.int u1), .val (.int u2), .val (.int en), .val (.int i), .val (.int j69_5), sl6, .val (.int (128 : Int32)), .val (.int (191 : Int32)), sl9, sl10] [(.int (2 : Int32))])) _
                refine XS.istoreS X.here hx rfl (hb hby d4_86) rfl rfl o6 ?_
                show Steps p.tables e below (T.setTop (mkF m 88 #[.val (.ref b1), .val (.int u1), .val (.int u2), .val (.int en), .val (.int i), .val (.int j69_5), .val (.int (2 : Int32)), .val (.int (128 : Int32)), .val (.int (191 : Int32)), sl9, sl10] [])) _
                refine XS.iload X.here hx rfl (hb hby d4_88) rfl ?_
                show Steps p.tables e below (T.setTop (mkF m 90 #[.val (.ref b1), .val (.int u1), .val (.int u2), .val (.int en), .val (.int i), .val (.int j69_5), .val (.int (2 : Int32)), .val (.int (128 : Int32)), .val (.int (191 : Int32)), sl9, sl10] [(.int j69_5)])) _
                refine XS.sipush X.here hx rfl (hb hby d4_90) ?_
                show Steps p.tables e below (T.setTop (mkF m 93 #[.val (.ref b1), .val (.int u1), .val (.int u2), .val (.int en), .val (.int i), .val (.int j69_5), .val (.int (2 : Int32)), .val (.int (128 : Int32)), .val (.int (191 : Int32)), sl9, sl10] [(.int (224 : Int32)), (.int j69_5)])) _
                exact k
              by_cases hc93 : j69_5 = (224 : Int32)
              · refine own_go (b := T.setTop (mkF m 111 #[.val (.ref b1), .val (.int u1), .val (.int u2), .val (.int en), .val (.int i), .val (.int j69_5), .val (.int (2 : Int32)), .val (.int (160 : Int32)), .val (.int (191 : Int32)), sl9, sl10] [(.int (237 : Int32)), (.int j69_5)])) (fun t k => ?_) ?_
                · show Steps p.tables e below (T.setTop (mkF m 93 #[.val (.ref b1), .val (.int u1), .val (.int u2), .val (.int en), .val (.int i), .val (.int j69_5), .val (.int (2 : Int32)), .val (.int (128 : Int32)), .val (.int (191 : Int32)), sl9, sl10] [(.int (224 : Int32)), (.int j69_5)])) _
                  refine XS.icmpNo X.here hx rfl (hb hby d4_93) rfl (teq hc93).2 ?_
                  show Steps p.tables e below (T.setTop (mkF m 96 #[.val (.ref b1), .val (.int u1), .val (.int u2), .val (.int en), .val (.int i), .val (.int j69_5), .val (.int (2 : Int32)), .val (.int (128 : Int32)), .val (.int (191 : Int32)), sl9, sl10] [])) _
                  refine XS.sipush X.here hx rfl (hb hby d4_96) ?_
                  show Steps p.tables e below (T.setTop (mkF m 99 #[.val (.ref b1), .val (.int u1), .val (.int u2), .val (.int en), .val (.int i), .val (.int j69_5), .val (.int (2 : Int32)), .val (.int (128 : Int32)), .val (.int (191 : Int32)), sl9, sl10] [(.int (160 : Int32))])) _
                  refine XS.goto X.here hx rfl (pc0 := 99) (pc' := 104) rfl (hb hby d4_99) (by decide) (by decide) ?_
                  show Steps p.tables e below (T.setTop (mkF m 104 #[.val (.ref b1), .val (.int u1), .val (.int u2), .val (.int en), .val (.int i), .val (.int j69_5), .val (.int (2 : Int32)), .val (.int (128 : Int32)), .val (.int (191 : Int32)), sl9, sl10] [(.int (160 : Int32))])) _
                  refine XS.istore X.here hx rfl (hb hby d4_104) rfl (l' := #[.val (.ref b1), .val (.int u1), .val (.int u2), .val (.int en), .val (.int i), .val (.int j69_5), .val (.int (2 : Int32)), .val (.int (160 : Int32)), .val (.int (191 : Int32)), sl9, sl10]) rfl ?_
                  show Steps p.tables e below (T.setTop (mkF m 106 #[.val (.ref b1), .val (.int u1), .val (.int u2), .val (.int en), .val (.int i), .val (.int j69_5), .val (.int (2 : Int32)), .val (.int (160 : Int32)), .val (.int (191 : Int32)), sl9, sl10] [])) _
                  refine XS.iload X.here hx rfl (hb hby d4_106) rfl ?_
                  show Steps p.tables e below (T.setTop (mkF m 108 #[.val (.ref b1), .val (.int u1), .val (.int u2), .val (.int en), .val (.int i), .val (.int j69_5), .val (.int (2 : Int32)), .val (.int (160 : Int32)), .val (.int (191 : Int32)), sl9, sl10] [(.int j69_5)])) _
                  refine XS.sipush X.here hx rfl (hb hby d4_108) ?_
                  show Steps p.tables e below (T.setTop (mkF m 111 #[.val (.ref b1), .val (.int u1), .val (.int u2), .val (.int en), .val (.int i), .val (.int j69_5), .val (.int (2 : Int32)), .val (.int (160 : Int32)), .val (.int (191 : Int32)), sl9, sl10] [(.int (237 : Int32)), (.int j69_5)])) _
                  exact k
                by_cases hc111 : j69_5 = (237 : Int32)
                · refine own_go (b := T.setTop (mkF m 187 #[.val (.ref b1), .val (.int u1), .val (.int u2), .val (.int en), .val (.int i), .val (.int j69_5), .val (.int (2 : Int32)), .val (.int (160 : Int32)), .val (.int (159 : Int32)), sl9, sl10] [])) (fun t k => ?_) ?_
                  · show Steps p.tables e below (T.setTop (mkF m 111 #[.val (.ref b1), .val (.int u1), .val (.int u2), .val (.int en), .val (.int i), .val (.int j69_5), .val (.int (2 : Int32)), .val (.int (160 : Int32)), .val (.int (191 : Int32)), sl9, sl10] [(.int (237 : Int32)), (.int j69_5)])) _
                    refine XS.icmpNo X.here hx rfl (hb hby d4_111) rfl (teq hc111).2 ?_
                    show Steps p.tables e below (T.setTop (mkF m 114 #[.val (.ref b1), .val (.int u1), .val (.int u2), .val (.int en), .val (.int i), .val (.int j69_5), .val (.int (2 : Int32)), .val (.int (160 : Int32)), .val (.int (191 : Int32)), sl9, sl10] [])) _
                    refine XS.sipush X.here hx rfl (hb hby d4_114) ?_
                    show Steps p.tables e below (T.setTop (mkF m 117 #[.val (.ref b1), .val (.int u1), .val (.int u2), .val (.int en), .val (.int i), .val (.int j69_5), .val (.int (2 : Int32)), .val (.int (160 : Int32)), .val (.int (191 : Int32)), sl9, sl10] [(.int (159 : Int32))])) _
                    refine XS.goto X.here hx rfl (pc0 := 117) (pc' := 122) rfl (hb hby d4_117) (by decide) (by decide) ?_
                    show Steps p.tables e below (T.setTop (mkF m 122 #[.val (.ref b1), .val (.int u1), .val (.int u2), .val (.int en), .val (.int i), .val (.int j69_5), .val (.int (2 : Int32)), .val (.int (160 : Int32)), .val (.int (191 : Int32)), sl9, sl10] [(.int (159 : Int32))])) _
                    refine XS.istore X.here hx rfl (hb hby d4_122) rfl (l' := #[.val (.ref b1), .val (.int u1), .val (.int u2), .val (.int en), .val (.int i), .val (.int j69_5), .val (.int (2 : Int32)), .val (.int (160 : Int32)), .val (.int (159 : Int32)), sl9, sl10]) rfl ?_
                    show Steps p.tables e below (T.setTop (mkF m 124 #[.val (.ref b1), .val (.int u1), .val (.int u2), .val (.int en), .val (.int i), .val (.int j69_5), .val (.int (2 : Int32)), .val (.int (160 : Int32)), .val (.int (159 : Int32)), sl9, sl10] [])) _
                    refine XS.goto X.here hx rfl (pc0 := 124) (pc' := 187) rfl (hb hby d4_124) (by decide) (by decide) ?_
                    show Steps p.tables e below (T.setTop (mkF m 187 #[.val (.ref b1), .val (.int u1), .val (.int u2), .val (.int en), .val (.int i), .val (.int j69_5), .val (.int (2 : Int32)), .val (.int (160 : Int32)), .val (.int (159 : Int32)), sl9, sl10] [])) _
                    exact k
                  exact J187_2_160_159 T _ X N eT j69_5   (by rw [hv, own_ch_69, if_neg hc74, if_neg hc82, if_pos hc93, if_pos hc111])
                · refine own_go (b := T.setTop (mkF m 187 #[.val (.ref b1), .val (.int u1), .val (.int u2), .val (.int en), .val (.int i), .val (.int j69_5), .val (.int (2 : Int32)), .val (.int (160 : Int32)), .val (.int (191 : Int32)), sl9, sl10] [])) (fun t k => ?_) ?_
                  · show Steps p.tables e below (T.setTop (mkF m 111 #[.val (.ref b1), .val (.int u1), .val (.int u2), .val (.int en), .val (.int i), .val (.int j69_5), .val (.int (2 : Int32)), .val (.int (160 : Int32)), .val (.int (191 : Int32)), sl9, sl10] [(.int (237 : Int32)), (.int j69_5)])) _
                    refine XS.icmpYes X.here hx rfl (pc0 := 111) (pc' := 120) rfl (hb hby d4_111) rfl (feq hc111).2 (by decide) (by decide) ?_
                    show Steps p.tables e below (T.setTop (mkF m 120 #[.val (.ref b1), .val (.int u1), .val (.int u2), .val (.int en), .val (.int i), .val (.int j69_5), .val (.int (2 : Int32)), .val (.int (160 : Int32)), .val (.int (191 : Int32)), sl9, sl10] [])) _
                    refine XS.iload X.here hx rfl (hb hby d4_120) rfl ?_
                    show Steps p.tables e below (T.setTop (mkF m 122 #[.val (.ref b1), .val (.int u1), .val (.int u2), .val (.int en), .val (.int i), .val (.int j69_5), .val (.int (2 : Int32)), .val (.int (160 : Int32)), .val (.int (191 : Int32)), sl9, sl10] [(.int (191 : Int32))])) _
                    refine XS.istore X.here hx rfl (hb hby d4_122) rfl (l' := #[.val (.ref b1), .val (.int u1), .val (.int u2), .val (.int en), .val (.int i), .val (.int j69_5), .val (.int (2 : Int32)), .val (.int (160 : Int32)), .val (.int (191 : Int32)), sl9, sl10]) rfl ?_
                    show Steps p.tables e below (T.setTop (mkF m 124 #[.val (.ref b1), .val (.int u1), .val (.int u2), .val (.int en), .val (.int i), .val (.int j69_5), .val (.int (2 : Int32)), .val (.int (160 : Int32)), .val (.int (191 : Int32)), sl9, sl10] [])) _
                    refine XS.goto X.here hx rfl (pc0 := 124) (pc' := 187) rfl (hb hby d4_124) (by decide) (by decide) ?_
                    show Steps p.tables e below (T.setTop (mkF m 187 #[.val (.ref b1), .val (.int u1), .val (.int u2), .val (.int en), .val (.int i), .val (.int j69_5), .val (.int (2 : Int32)), .val (.int (160 : Int32)), .val (.int (191 : Int32)), sl9, sl10] [])) _
                    exact k
                  exact J187_2_160_191 T _ X N eT j69_5   (by rw [hv, own_ch_69, if_neg hc74, if_neg hc82, if_pos hc93, if_neg hc111])
              · refine own_go (b := T.setTop (mkF m 111 #[.val (.ref b1), .val (.int u1), .val (.int u2), .val (.int en), .val (.int i), .val (.int j69_5), .val (.int (2 : Int32)), .val (.int (128 : Int32)), .val (.int (191 : Int32)), sl9, sl10] [(.int (237 : Int32)), (.int j69_5)])) (fun t k => ?_) ?_
                · show Steps p.tables e below (T.setTop (mkF m 93 #[.val (.ref b1), .val (.int u1), .val (.int u2), .val (.int en), .val (.int i), .val (.int j69_5), .val (.int (2 : Int32)), .val (.int (128 : Int32)), .val (.int (191 : Int32)), sl9, sl10] [(.int (224 : Int32)), (.int j69_5)])) _
                  refine XS.icmpYes X.here hx rfl (pc0 := 93) (pc' := 102) rfl (hb hby d4_93) rfl (feq hc93).2 (by decide) (by decide) ?_
                  show Steps p.tables e below (T.setTop (mkF m 102 #[.val (.ref b1), .val (.int u1), .val (.int u2), .val (.int en), .val (.int i), .val (.int j69_5), .val (.int (2 : Int32)), .val (.int (128 : Int32)), .val (.int (191 : Int32)), sl9, sl10] [])) _
                  refine XS.iload X.here hx rfl (hb hby d4_102) rfl ?_
                  show Steps p.tables e below (T.setTop (mkF m 104 #[.val (.ref b1), .val (.int u1), .val (.int u2), .val (.int en), .val (.int i), .val (.int j69_5), .val (.int (2 : Int32)), .val (.int (128 : Int32)), .val (.int (191 : Int32)), sl9, sl10] [(.int (128 : Int32))])) _
                  refine XS.istore X.here hx rfl (hb hby d4_104) rfl (l' := #[.val (.ref b1), .val (.int u1), .val (.int u2), .val (.int en), .val (.int i), .val (.int j69_5), .val (.int (2 : Int32)), .val (.int (128 : Int32)), .val (.int (191 : Int32)), sl9, sl10]) rfl ?_
                  show Steps p.tables e below (T.setTop (mkF m 106 #[.val (.ref b1), .val (.int u1), .val (.int u2), .val (.int en), .val (.int i), .val (.int j69_5), .val (.int (2 : Int32)), .val (.int (128 : Int32)), .val (.int (191 : Int32)), sl9, sl10] [])) _
                  refine XS.iload X.here hx rfl (hb hby d4_106) rfl ?_
                  show Steps p.tables e below (T.setTop (mkF m 108 #[.val (.ref b1), .val (.int u1), .val (.int u2), .val (.int en), .val (.int i), .val (.int j69_5), .val (.int (2 : Int32)), .val (.int (128 : Int32)), .val (.int (191 : Int32)), sl9, sl10] [(.int j69_5)])) _
                  refine XS.sipush X.here hx rfl (hb hby d4_108) ?_
                  show Steps p.tables e below (T.setTop (mkF m 111 #[.val (.ref b1), .val (.int u1), .val (.int u2), .val (.int en), .val (.int i), .val (.int j69_5), .val (.int (2 : Int32)), .val (.int (128 : Int32)), .val (.int (191 : Int32)), sl9, sl10] [(.int (237 : Int32)), (.int j69_5)])) _
                  exact k
                by_cases hc111 : j69_5 = (237 : Int32)
                · refine own_go (b := T.setTop (mkF m 187 #[.val (.ref b1), .val (.int u1), .val (.int u2), .val (.int en), .val (.int i), .val (.int j69_5), .val (.int (2 : Int32)), .val (.int (128 : Int32)), .val (.int (159 : Int32)), sl9, sl10] [])) (fun t k => ?_) ?_
                  · show Steps p.tables e below (T.setTop (mkF m 111 #[.val (.ref b1), .val (.int u1), .val (.int u2), .val (.int en), .val (.int i), .val (.int j69_5), .val (.int (2 : Int32)), .val (.int (128 : Int32)), .val (.int (191 : Int32)), sl9, sl10] [(.int (237 : Int32)), (.int j69_5)])) _
                    refine XS.icmpNo X.here hx rfl (hb hby d4_111) rfl (teq hc111).2 ?_
                    show Steps p.tables e below (T.setTop (mkF m 114 #[.val (.ref b1), .val (.int u1), .val (.int u2), .val (.int en), .val (.int i), .val (.int j69_5), .val (.int (2 : Int32)), .val (.int (128 : Int32)), .val (.int (191 : Int32)), sl9, sl10] [])) _
                    refine XS.sipush X.here hx rfl (hb hby d4_114) ?_
                    show Steps p.tables e below (T.setTop (mkF m 117 #[.val (.ref b1), .val (.int u1), .val (.int u2), .val (.int en), .val (.int i), .val (.int j69_5), .val (.int (2 : Int32)), .val (.int (128 : Int32)), .val (.int (191 : Int32)), sl9, sl10] [(.int (159 : Int32))])) _
                    refine XS.goto X.here hx rfl (pc0 := 117) (pc' := 122) rfl (hb hby d4_117) (by decide) (by decide) ?_
                    show Steps p.tables e below (T.setTop (mkF m 122 #[.val (.ref b1), .val (.int u1), .val (.int u2), .val (.int en), .val (.int i), .val (.int j69_5), .val (.int (2 : Int32)), .val (.int (128 : Int32)), .val (.int (191 : Int32)), sl9, sl10] [(.int (159 : Int32))])) _
                    refine XS.istore X.here hx rfl (hb hby d4_122) rfl (l' := #[.val (.ref b1), .val (.int u1), .val (.int u2), .val (.int en), .val (.int i), .val (.int j69_5), .val (.int (2 : Int32)), .val (.int (128 : Int32)), .val (.int (159 : Int32)), sl9, sl10]) rfl ?_
                    show Steps p.tables e below (T.setTop (mkF m 124 #[.val (.ref b1), .val (.int u1), .val (.int u2), .val (.int en), .val (.int i), .val (.int j69_5), .val (.int (2 : Int32)), .val (.int (128 : Int32)), .val (.int (159 : Int32)), sl9, sl10] [])) _
                    refine XS.goto X.here hx rfl (pc0 := 124) (pc' := 187) rfl (hb hby d4_124) (by decide) (by decide) ?_
                    show Steps p.tables e below (T.setTop (mkF m 187 #[.val (.ref b1), .val (.int u1), .val (.int u2), .val (.int en), .val (.int i), .val (.int j69_5), .val (.int (2 : Int32)), .val (.int (128 : Int32)), .val (.int (159 : Int32)), sl9, sl10] [])) _
                    exact k
                  exact J187_2_128_159 T _ X N eT j69_5   (by rw [hv, own_ch_69, if_neg hc74, if_neg hc82, if_neg hc93, if_pos hc111])
                · refine own_go (b := T.setTop (mkF m 187 #[.val (.ref b1), .val (.int u1), .val (.int u2), .val (.int en), .val (.int i), .val (.int j69_5), .val (.int (2 : Int32)), .val (.int (128 : Int32)), .val (.int (191 : Int32)), sl9, sl10] [])) (fun t k => ?_) ?_
                  · show Steps p.tables e below (T.setTop (mkF m 111 #[.val (.ref b1), .val (.int u1), .val (.int u2), .val (.int en), .val (.int i), .val (.int j69_5), .val (.int (2 : Int32)), .val (.int (128 : Int32)), .val (.int (191 : Int32)), sl9, sl10] [(.int (237 : Int32)), (.int j69_5)])) _
                    refine XS.icmpYes X.here hx rfl (pc0 := 111) (pc' := 120) rfl (hb hby d4_111) rfl (feq hc111).2 (by decide) (by decide) ?_
                    show Steps p.tables e below (T.setTop (mkF m 120 #[.val (.ref b1), .val (.int u1), .val (.int u2), .val (.int en), .val (.int i), .val (.int j69_5), .val (.int (2 : Int32)), .val (.int (128 : Int32)), .val (.int (191 : Int32)), sl9, sl10] [])) _
                    refine XS.iload X.here hx rfl (hb hby d4_120) rfl ?_
                    show Steps p.tables e below (T.setTop (mkF m 122 #[.val (.ref b1), .val (.int u1), .val (.int u2), .val (.int en), .val (.int i), .val (.int j69_5), .val (.int (2 : Int32)), .val (.int (128 : Int32)), .val (.int (191 : Int32)), sl9, sl10] [(.int (191 : Int32))])) _
                    refine XS.istore X.here hx rfl (hb hby d4_122) rfl (l' := #[.val (.ref b1), .val (.int u1), .val (.int u2), .val (.int en), .val (.int i), .val (.int j69_5), .val (.int (2 : Int32)), .val (.int (128 : Int32)), .val (.int (191 : Int32)), sl9, sl10]) rfl ?_
                    show Steps p.tables e below (T.setTop (mkF m 124 #[.val (.ref b1), .val (.int u1), .val (.int u2), .val (.int en), .val (.int i), .val (.int j69_5), .val (.int (2 : Int32)), .val (.int (128 : Int32)), .val (.int (191 : Int32)), sl9, sl10] [])) _
                    refine XS.goto X.here hx rfl (pc0 := 124) (pc' := 187) rfl (hb hby d4_124) (by decide) (by decide) ?_
                    show Steps p.tables e below (T.setTop (mkF m 187 #[.val (.ref b1), .val (.int u1), .val (.int u2), .val (.int en), .val (.int i), .val (.int j69_5), .val (.int (2 : Int32)), .val (.int (128 : Int32)), .val (.int (191 : Int32)), sl9, sl10] [])) _
                    exact k
                  exact J187_2_128_191 T _ X N eT j69_5   (by rw [hv, own_ch_69, if_neg hc74, if_neg hc82, if_neg hc93, if_neg hc111])
        have J23 : ∀ (T : State) (lc : List Loc), Stand p l e ({ frames := 0, cells := 0, slots := 0, locals := 0 } : Room) s m #[(.ref b1), (.int u1), (.int u2)] below meth c T lc 0 0 → Fr n0 lc → T.heap = h0 → ∀ (j23_5 : Int32), own_ch_0 f_b1 en i = own_ch_23 f_b1 en i j23_5 → own_Go p e below s (Q4 b1 cl_b1 f_b1 z_b1 u1 u2 h0 n0) ({ frames := 0, cells := 0, slots := 0, locals := 0 } : Room).cells ({ frames := 0, cells := 0, slots := 0, locals := 0 } : Room).slots (T.setTop (mkF m 23 #[.val (.ref b1), .val (.int u1), .val (.int u2), .val (.int en), .val (.int i), .val (.int j23_5), sl6, sl7, sl8, sl9, sl10] [])) := by
          intro T lc X N eT j23_5   hv
          refine own_go (b := T.setTop (mkF m 28 #[.val (.ref b1), .val (.int u1), .val (.int u2), .val (.int en), .val (.int i), .val (.int j23_5), sl6, sl7, sl8, sl9, sl10] [(.int (128 : Int32)), (.int j23_5)])) (fun t k => ?_) ?_
          · show Steps p.tables e below (T.setTop (mkF m 23 #[.val (.ref b1), .val (.int u1), .val (.int u2), .val (.int en), .val (.int i), .val (.int j23_5), sl6, sl7, sl8, sl9, sl10] [])) _
            refine XS.iload X.here hx rfl (hb hby d4_23) rfl ?_
            show Steps p.tables e below (T.setTop (mkF m 25 #[.val (.ref b1), .val (.int u1), .val (.int u2), .val (.int en), .val (.int i), .val (.int j23_5), sl6, sl7, sl8, sl9, sl10] [(.int j23_5)])) _
            refine XS.sipush X.here hx rfl (hb hby d4_25) ?_
            show Steps p.tables e below (T.setTop (mkF m 28 #[.val (.ref b1), .val (.int u1), .val (.int u2), .val (.int en), .val (.int i), .val (.int j23_5), sl6, sl7, sl8, sl9, sl10] [(.int (128 : Int32)), (.int j23_5)])) _
            exact k
          by_cases hc28 : j23_5 < (128 : Int32)
          · refine own_go (b := T.setTop (mkF m 7 #[.val (.ref b1), .val (.int u1), .val (.int u2), .val (.int en), .val (.int (i + (1 : Int32))), .val (.int j23_5), sl6, sl7, sl8, sl9, sl10] [])) (fun t k => ?_) ?_
            · show Steps p.tables e below (T.setTop (mkF m 28 #[.val (.ref b1), .val (.int u1), .val (.int u2), .val (.int en), .val (.int i), .val (.int j23_5), sl6, sl7, sl8, sl9, sl10] [(.int (128 : Int32)), (.int j23_5)])) _
              refine XS.icmpNo X.here hx rfl (hb hby d4_28) rfl (tlt hc28).2.1 ?_
              show Steps p.tables e below (T.setTop (mkF m 31 #[.val (.ref b1), .val (.int u1), .val (.int u2), .val (.int en), .val (.int i), .val (.int j23_5), sl6, sl7, sl8, sl9, sl10] [])) _
              refine XS.iinc X.here hx rfl (hb hby d4_31) rfl (l' := #[.val (.ref b1), .val (.int u1), .val (.int u2), .val (.int en), .val (.int (i + (1 : Int32))), .val (.int j23_5), sl6, sl7, sl8, sl9, sl10]) rfl ?_
              show Steps p.tables e below (T.setTop (mkF m 34 #[.val (.ref b1), .val (.int u1), .val (.int u2), .val (.int en), .val (.int (i + (1 : Int32))), .val (.int j23_5), sl6, sl7, sl8, sl9, sl10] [])) _
              refine XS.goto X.here hx rfl (pc0 := 34) (pc' := 270) rfl (hb hby d4_34) (by decide) (by decide) ?_
              show Steps p.tables e below (T.setTop (mkF m 270 #[.val (.ref b1), .val (.int u1), .val (.int u2), .val (.int en), .val (.int (i + (1 : Int32))), .val (.int j23_5), sl6, sl7, sl8, sl9, sl10] [])) _
              refine XS.goto X.here hx rfl (pc0 := 270) (pc' := 7) rfl (hb hby d4_270) (by decide) (by decide) ?_
              show Steps p.tables e below (T.setTop (mkF m 7 #[.val (.ref b1), .val (.int u1), .val (.int u2), .val (.int en), .val (.int (i + (1 : Int32))), .val (.int j23_5), sl6, sl7, sl8, sl9, sl10] [])) _
              exact k
            have ad := own_a1 j1 hc10
            have hch : own_ch_0 f_b1 en i = (1 : Int32) := by rw [hv, own_ch_23, if_pos hc28]
            exact ih T _ X N eT _ _ _ _ _ _ _ (One.val rfl) o6 o7 o8 o9 o10 (by rw [ad.1]; omega) (by rw [ad.1]; omega) (by rw [hu, own_u8A, if_pos hc10, if_neg (by rw [hch]; decide), hch])
          · refine own_go (b := T.setTop (mkF m 52 #[.val (.ref b1), .val (.int u1), .val (.int u2), .val (.int en), .val (.int i), .val (.int j23_5), sl6, .val (.int (128 : Int32)), .val (.int (191 : Int32)), sl9, sl10] [(.int (194 : Int32)), (.int j23_5)])) (fun t k => ?_) ?_
            · show Steps p.tables e below (T.setTop (mkF m 28 #[.val (.ref b1), .val (.int u1), .val (.int u2), .val (.int en), .val (.int i), .val (.int j23_5), sl6, sl7, sl8, sl9, sl10] [(.int (128 : Int32)), (.int j23_5)])) _
              refine XS.icmpYes X.here hx rfl (pc0 := 28) (pc' := 37) rfl (hb hby d4_28) rfl (flt hc28).2.1 (by decide) (by decide) ?_
              show Steps p.tables e below (T.setTop (mkF m 37 #[.val (.ref b1), .val (.int u1), .val (.int u2), .val (.int en), .val (.int i), .val (.int j23_5), sl6, sl7, sl8, sl9, sl10] [])) _
              refine XS.sipush X.here hx rfl (hb hby d4_37) ?_
              show Steps p.tables e below (T.setTop (mkF m 40 #[.val (.ref b1), .val (.int u1), .val (.int u2), .val (.int en), .val (.int i), .val (.int j23_5), sl6, sl7, sl8, sl9, sl10] [(.int (128 : Int32))])) _
              refine XS.istoreS X.here hx rfl (hb hby d4_40) rfl rfl o7 ?_
              show Steps p.tables e below (T.setTop (mkF m 42 #[.val (.ref b1), .val (.int u1), .val (.int u2), .val (.int en), .val (.int i), .val (.int j23_5), sl6, .val (.int (128 : Int32)), sl8, sl9, sl10] [])) _
              refine XS.sipush X.here hx rfl (hb hby d4_42) ?_
              show Steps p.tables e below (T.setTop (mkF m 45 #[.val (.ref b1), .val (.int u1), .val (.int u2), .val (.int en), .val (.int i), .val (.int j23_5), sl6, .val (.int (128 : Int32)), sl8, sl9, sl10] [(.int (191 : Int32))])) _
              refine XS.istoreS X.here hx rfl (hb hby d4_45) rfl rfl o8 ?_
              show Steps p.tables e below (T.setTop (mkF m 47 #[.val (.ref b1), .val (.int u1), .val (.int u2), .val (.int en), .val (.int i), .val (.int j23_5), sl6, .val (.int (128 : Int32)), .val (.int (191 : Int32)), sl9, sl10] [])) _
              refine XS.iload X.here hx rfl (hb hby d4_47) rfl ?_
              show Steps p.tables e below (T.setTop (mkF m 49 #[.val (.ref b1), .val (.int u1), .val (.int u2), .val (.int en), .val (.int i), .val (.int j23_5), sl6, .val (.int (128 : Int32)), .val (.int (191 : Int32)), sl9, sl10] [(.int j23_5)])) _
              refine XS.sipush X.here hx rfl (hb hby d4_49) ?_
              show Steps p.tables e below (T.setTop (mkF m 52 #[.val (.ref b1), .val (.int u1), .val (.int u2), .val (.int en), .val (.int i), .val (.int j23_5), sl6, .val (.int (128 : Int32)), .val (.int (191 : Int32)), sl9, sl10] [(.int (194 : Int32)), (.int j23_5)])) _
              exact k
            by_cases hc52 : j23_5 < (194 : Int32)
            · refine own_go (b := T.setTop (mkF m 69 #[.val (.ref b1), .val (.int u1), .val (.int u2), .val (.int en), .val (.int i), .val (.int j23_5), sl6, .val (.int (128 : Int32)), .val (.int (191 : Int32)), sl9, sl10] [])) (fun t k => ?_) ?_
              · show Steps p.tables e below (T.setTop (mkF m 52 #[.val (.ref b1), .val (.int u1), .val (.int u2), .val (.int en), .val (.int i), .val (.int j23_5), sl6, .val (.int (128 : Int32)), .val (.int (191 : Int32)), sl9, sl10] [(.int (194 : Int32)), (.int j23_5)])) _
                refine XS.icmpYes X.here hx rfl (pc0 := 52) (pc' := 69) rfl (hb hby d4_52) rfl (tlt hc52).1 (by decide) (by decide) ?_
                show Steps p.tables e below (T.setTop (mkF m 69 #[.val (.ref b1), .val (.int u1), .val (.int u2), .val (.int en), .val (.int i), .val (.int j23_5), sl6, .val (.int (128 : Int32)), .val (.int (191 : Int32)), sl9, sl10] [])) _
                exact k
              exact J69 T _ X N eT j23_5   (by rw [hv, own_ch_23, if_neg hc28, if_pos hc52])
            · refine own_go (b := T.setTop (mkF m 60 #[.val (.ref b1), .val (.int u1), .val (.int u2), .val (.int en), .val (.int i), .val (.int j23_5), sl6, .val (.int (128 : Int32)), .val (.int (191 : Int32)), sl9, sl10] [(.int (223 : Int32)), (.int j23_5)])) (fun t k => ?_) ?_
              · show Steps p.tables e below (T.setTop (mkF m 52 #[.val (.ref b1), .val (.int u1), .val (.int u2), .val (.int en), .val (.int i), .val (.int j23_5), sl6, .val (.int (128 : Int32)), .val (.int (191 : Int32)), sl9, sl10] [(.int (194 : Int32)), (.int j23_5)])) _
                refine XS.icmpNo X.here hx rfl (hb hby d4_52) rfl (flt hc52).1 ?_
                show Steps p.tables e below (T.setTop (mkF m 55 #[.val (.ref b1), .val (.int u1), .val (.int u2), .val (.int en), .val (.int i), .val (.int j23_5), sl6, .val (.int (128 : Int32)), .val (.int (191 : Int32)), sl9, sl10] [])) _
                refine XS.iload X.here hx rfl (hb hby d4_55) rfl ?_
                show Steps p.tables e below (T.setTop (mkF m 57 #[.val (.ref b1), .val (.int u1), .val (.int u2), .val (.int en), .val (.int i), .val (.int j23_5), sl6, .val (.int (128 : Int32)), .val (.int (191 : Int32)), sl9, sl10] [(.int j23_5)])) _
                refine XS.sipush X.here hx rfl (hb hby d4_57) ?_
                show Steps p.tables e below (T.setTop (mkF m 60 #[.val (.ref b1), .val (.int u1), .val (.int u2), .val (.int en), .val (.int i), .val (.int j23_5), sl6, .val (.int (128 : Int32)), .val (.int (191 : Int32)), sl9, sl10] [(.int (223 : Int32)), (.int j23_5)])) _
                exact k
              by_cases hc60 : (223 : Int32) < j23_5
              · refine own_go (b := T.setTop (mkF m 69 #[.val (.ref b1), .val (.int u1), .val (.int u2), .val (.int en), .val (.int i), .val (.int j23_5), sl6, .val (.int (128 : Int32)), .val (.int (191 : Int32)), sl9, sl10] [])) (fun t k => ?_) ?_
                · show Steps p.tables e below (T.setTop (mkF m 60 #[.val (.ref b1), .val (.int u1), .val (.int u2), .val (.int en), .val (.int i), .val (.int j23_5), sl6, .val (.int (128 : Int32)), .val (.int (191 : Int32)), sl9, sl10] [(.int (223 : Int32)), (.int j23_5)])) _
                  refine XS.icmpYes X.here hx rfl (pc0 := 60) (pc' := 69) rfl (hb hby d4_60) rfl (tlt hc60).2.2.1 (by decide) (by decide) ?_
                  show Steps p.tables e below (T.setTop (mkF m 69 #[.val (.ref b1), .val (.int u1), .val (.int u2), .val (.int en), .val (.int i), .val (.int j23_5), sl6, .val (.int (128 : Int32)), .val (.int (191 : Int32)), sl9, sl10] [])) _
                  exact k
                exact J69 T _ X N eT j23_5   (by rw [hv, own_ch_23, if_neg hc28, if_neg hc52, if_pos hc60])
              · refine own_go (b := T.setTop (mkF m 187 #[.val (.ref b1), .val (.int u1), .val (.int u2), .val (.int en), .val (.int i), .val (.int j23_5), .val (.int (1 : Int32)), .val (.int (128 : Int32)), .val (.int (191 : Int32)), sl9, sl10] [])) (fun t k => ?_) ?_
                · show Steps p.tables e below (T.setTop (mkF m 60 #[.val (.ref b1), .val (.int u1), .val (.int u2), .val (.int en), .val (.int i), .val (.int j23_5), sl6, .val (.int (128 : Int32)), .val (.int (191 : Int32)), sl9, sl10] [(.int (223 : Int32)), (.int j23_5)])) _
                  refine XS.icmpNo X.here hx rfl (hb hby d4_60) rfl (flt hc60).2.2.1 ?_
                  show Steps p.tables e below (T.setTop (mkF m 63 #[.val (.ref b1), .val (.int u1), .val (.int u2), .val (.int en), .val (.int i), .val (.int j23_5), sl6, .val (.int (128 : Int32)), .val (.int (191 : Int32)), sl9, sl10] [])) _
                  refine XS.iconst X.here hx rfl (hb hby d4_63) ?_
                  show Steps p.tables e below (T.setTop (mkF m 64 #[.val (.ref b1), .val (.int u1), .val (.int u2), .val (.int en), .val (.int i), .val (.int j23_5), sl6, .val (.int (128 : Int32)), .val (.int (191 : Int32)), sl9, sl10] [(.int (1 : Int32))])) _
                  refine XS.istoreS X.here hx rfl (hb hby d4_64) rfl rfl o6 ?_
                  show Steps p.tables e below (T.setTop (mkF m 66 #[.val (.ref b1), .val (.int u1), .val (.int u2), .val (.int en), .val (.int i), .val (.int j23_5), .val (.int (1 : Int32)), .val (.int (128 : Int32)), .val (.int (191 : Int32)), sl9, sl10] [])) _
                  refine XS.goto X.here hx rfl (pc0 := 66) (pc' := 187) rfl (hb hby d4_66) (by decide) (by decide) ?_
                  show Steps p.tables e below (T.setTop (mkF m 187 #[.val (.ref b1), .val (.int u1), .val (.int u2), .val (.int en), .val (.int i), .val (.int j23_5), .val (.int (1 : Int32)), .val (.int (128 : Int32)), .val (.int (191 : Int32)), sl9, sl10] [])) _
                  exact k
                exact J187_1_128_191 T _ X N eT j23_5   (by rw [hv, own_ch_23, if_neg hc28, if_neg hc52, if_neg hc60])
        have hi20 : ¬ i < 0 ∧ i.toNatClampNeg < z_b1.toNatClampNeg := own_ix0 j1 hc10 j2
        refine own_go (b := T.setTop (mkF m 23 #[.val (.ref b1), .val (.int u1), .val (.int u2), .val (.int en), .val (.int i), .val (.int ((f_b1 i.toNatClampNeg) &&& (255 : Int32))), sl6, sl7, sl8, sl9, sl10] [])) (fun t k => ?_) ?_
        · show Steps p.tables e below (T.setTop (mkF m 13 #[.val (.ref b1), .val (.int u1), .val (.int u2), .val (.int en), .val (.int i), sl5, sl6, sl7, sl8, sl9, sl10] [])) _
          refine XS.aloadN X.here hx rfl (hb hby d4_13) rfl rfl ?_
          show Steps p.tables e below (T.setTop (mkF m 14 #[.val (.ref b1), .val (.int u1), .val (.int u2), .val (.int en), .val (.int i), sl5, sl6, sl7, sl8, sl9, sl10] [(.ref b1)])) _
          refine XS.iload X.here hx rfl (hb hby d4_14) rfl ?_
          show Steps p.tables e below (T.setTop (mkF m 16 #[.val (.ref b1), .val (.int u1), .val (.int u2), .val (.int en), .val (.int i), sl5, sl6, sl7, sl8, sl9, sl10] [(.int i), (.ref b1)])) _
          refine X.baloadBytes hx (j := i) (v := (.int (f_b1 i.toNatClampNeg))) (by rw [eT]; exact Ar_b1.1) (State.isArrayOf_alike hZ.alike Ar_b1.2.1) Ar_b1.2.2 (own_hin S_b1 hi20) (H_b1 _ hi20.2) (g := (mkF m 16 #[.val (.ref b1), .val (.int u1), .val (.int u2), .val (.int en), .val (.int i), sl5, sl6, sl7, sl8, sl9, sl10] [(.int i), (.ref b1)])) rfl rfl (hb hby d4_16) _ ?_
          show Steps p.tables e below (T.setTop (mkF m 17 #[.val (.ref b1), .val (.int u1), .val (.int u2), .val (.int en), .val (.int i), sl5, sl6, sl7, sl8, sl9, sl10] [(.int (f_b1 i.toNatClampNeg))])) _
          refine XS.sipush X.here hx rfl (hb hby d4_17) ?_
          show Steps p.tables e below (T.setTop (mkF m 20 #[.val (.ref b1), .val (.int u1), .val (.int u2), .val (.int en), .val (.int i), sl5, sl6, sl7, sl8, sl9, sl10] [(.int (255 : Int32)), (.int (f_b1 i.toNatClampNeg))])) _
          refine XS.iand X.here hx rfl (hb hby d4_20) rfl ?_
          show Steps p.tables e below (T.setTop (mkF m 21 #[.val (.ref b1), .val (.int u1), .val (.int u2), .val (.int en), .val (.int i), sl5, sl6, sl7, sl8, sl9, sl10] [(.int ((f_b1 i.toNatClampNeg) &&& (255 : Int32)))])) _
          refine XS.istoreS X.here hx rfl (hb hby d4_21) rfl rfl o5 ?_
          show Steps p.tables e below (T.setTop (mkF m 23 #[.val (.ref b1), .val (.int u1), .val (.int u2), .val (.int en), .val (.int i), .val (.int ((f_b1 i.toNatClampNeg) &&& (255 : Int32))), sl6, sl7, sl8, sl9, sl10] [])) _
          exact k
        exact J23 T _ X N eT ((f_b1 i.toNatClampNeg) &&& (255 : Int32))   (by rw [own_ch_0])
      · refine own_end X Bd.notSynchronized (v := some (.int (1 : Int32))) (fun h => by rw [Bd.returns] at h; cases h) (fun fs hr => ?_) eT ?_ (by decide) (by decide)
        · show Steps p.tables e below (T.setTop (mkF m 10 #[.val (.ref b1), .val (.int u1), .val (.int u2), .val (.int en), .val (.int i), sl5, sl6, sl7, sl8, sl9, sl10] [(.int en), (.int i)])) _
          refine XS.icmpYes X.here hx rfl (pc0 := 10) (pc' := 273) rfl (hb hby d4_10) rfl (flt hc10).2.1 (by decide) (by decide) ?_
          show Steps p.tables e below (T.setTop (mkF m 273 #[.val (.ref b1), .val (.int u1), .val (.int u2), .val (.int en), .val (.int i), sl5, sl6, sl7, sl8, sl9, sl10] [])) _
          refine XS.iconst X.here hx rfl (hb hby d4_273) ?_
          show Steps p.tables e below (T.setTop (mkF m 274 #[.val (.ref b1), .val (.int u1), .val (.int u2), .val (.int en), .val (.int i), sl5, sl6, sl7, sl8, sl9, sl10] [(.int (1 : Int32))])) _
          exact retN X hx (t := .boolean) Bd.returns (by simp) (hb hby d4_274) hr
        · exact ⟨by rw [hu, own_u8A, if_neg hc10], N, rfl⟩
  refine own_go (b := s₁.setTop (mkF m 7 #[.val (.ref b1), .val (.int u1), .val (.int u2), .val (.int en), .val (.int u1), .unset, .unset, .unset, .unset, .unset, .unset] [])) (fun t k => ?_) ?_
  · show Steps p.tables e below (s₁.setTop (mkF m 4 #[.val (.ref b1), .val (.int u1), .val (.int u2), .val (.int en), .unset, .unset, .unset, .unset, .unset, .unset, .unset] [])) _
    refine XS.iloadN X0.here hx rfl (hb hby d4_4) rfl ?_
    show Steps p.tables e below (s₁.setTop (mkF m 5 #[.val (.ref b1), .val (.int u1), .val (.int u2), .val (.int en), .unset, .unset, .unset, .unset, .unset, .unset, .unset] [(.int u1)])) _
    refine XS.istore X0.here hx rfl (hb hby d4_5) rfl (l' := #[.val (.ref b1), .val (.int u1), .val (.int u2), .val (.int en), .val (.int u1), .unset, .unset, .unset, .unset, .unset, .unset]) rfl ?_
    show Steps p.tables e below (s₁.setTop (mkF m 7 #[.val (.ref b1), .val (.int u1), .val (.int u2), .val (.int en), .val (.int u1), .unset, .unset, .unset, .unset, .unset, .unset] [])) _
    exact k
  exact J7 en.toNatClampNeg s₁ _ X0 N0 e0 _ _ _ _ _ _ _ One.u One.u One.u One.u One.u One.u g1 (by show en.toInt - u1.toInt ≤ (en.toInt.toNat : Int); omega) (by rw [hen]; rfl)
theorem own_narb (x : Int32) : nar .byte x.toInt8.toInt32 = x.toInt8.toInt32 := by
  show x.toInt8.toInt32.toInt8.toInt32 = x.toInt8.toInt32
  simp
theorem own_255 (x : Int32) : 0 ≤ (x &&& (255 : Int32)).toInt ∧ (x &&& (255 : Int32)).toInt ≤ 255 := by
  rw [Jvm.Kit.i32_mask x 255 (k := 8) (by decide) (by decide)]; omega
theorem own_rem {k : Int32} (x : Int32) (hk : 0 < k.toInt) : 0 ≤ ((x &&& (2147483647 : Int32)) % k).toInt ∧ ((x &&& (2147483647 : Int32)) % k).toInt ≤ k.toInt - 1 := by
  have h0 : 0 ≤ (x &&& (2147483647 : Int32)).toInt := by rw [Jvm.Kit.i32_mask x 2147483647 (k := 31) (by decide) (by decide)]; omega
  rw [Jvm.Kit.i32_rem_nonneg h0]
  have a := Int.emod_nonneg (x &&& (2147483647 : Int32)).toInt (show k.toInt ≠ 0 by omega)
  have b := Int.emod_lt_of_pos (x &&& (2147483647 : Int32)).toInt hk
  omega
theorem own_byte {P : Int32 → Prop} (h : ∀ n : Fin 256, P (Int32.ofNat n.val)) {x : Int32} (hx : 0 ≤ x.toInt ∧ x.toInt ≤ 255) : P x := by
  have e : x = Int32.ofNat x.toInt.toNat := Int32.toInt_inj.mp (by rw [Int32.toInt_ofNat_of_lt (by omega)]; omega)
  rw [e]
  exact h ⟨x.toInt.toNat, by omega⟩
set_option maxRecDepth 65536 in
theorem own_F1 {x : Int32} (hx : 0 ≤ x.toInt ∧ x.toInt ≤ 255) : (x.toInt8.toInt32 &&& (255 : Int32)) = x := own_byte (P := fun x => (x.toInt8.toInt32 &&& (255 : Int32)) = x) (by decide +kernel) hx
set_option maxRecDepth 65536 in
theorem own_F2 {x : Int32} (hx : 0 ≤ x.toInt ∧ x.toInt ≤ 255) : ((x.toInt8.toInt32 &&& (192 : Int32)) = (128 : Int32)) ↔ (128 ≤ x.toInt ∧ x.toInt ≤ 191) := own_byte (P := fun x => ((x.toInt8.toInt32 &&& (192 : Int32)) = (128 : Int32)) ↔ (128 ≤ x.toInt ∧ x.toInt ≤ 191)) (by decide +kernel) hx
set_option maxRecDepth 65536 in
theorem own_F3 {x : Int32} (hx : 0 ≤ x.toInt ∧ x.toInt ≤ 255) : ((x &&& (192 : Int32)) = (128 : Int32)) ↔ (128 ≤ x.toInt ∧ x.toInt ≤ 191) := own_byte (P := fun x => ((x &&& (192 : Int32)) = (128 : Int32)) ↔ (128 ≤ x.toInt ∧ x.toInt ≤ 191)) (by decide +kernel) hx
set_option maxRecDepth 65536 in
theorem own_F4 {x : Int32} (hx : 0 ≤ x.toInt ∧ x.toInt ≤ 255) : ((x &&& (224 : Int32)) = (192 : Int32)) ↔ (192 ≤ x.toInt ∧ x.toInt ≤ 223) := own_byte (P := fun x => ((x &&& (224 : Int32)) = (192 : Int32)) ↔ (192 ≤ x.toInt ∧ x.toInt ≤ 223)) (by decide +kernel) hx
set_option maxRecDepth 65536 in
theorem own_F5 {x : Int32} (hx : 0 ≤ x.toInt ∧ x.toInt ≤ 255) : ((x &&& (240 : Int32)) = (224 : Int32)) ↔ (224 ≤ x.toInt ∧ x.toInt ≤ 239) := own_byte (P := fun x => ((x &&& (240 : Int32)) = (224 : Int32)) ↔ (224 ≤ x.toInt ∧ x.toInt ≤ 239)) (by decide +kernel) hx
set_option maxRecDepth 65536 in
theorem own_F6 {x : Int32} (hx : 0 ≤ x.toInt ∧ x.toInt ≤ 255) : ((x &&& (248 : Int32)) = (240 : Int32)) ↔ (240 ≤ x.toInt ∧ x.toInt ≤ 247) := own_byte (P := fun x => ((x &&& (248 : Int32)) = (240 : Int32)) ↔ (240 ≤ x.toInt ∧ x.toInt ≤ 247)) (by decide +kernel) hx
theorem own_nat {a : Int32} (h : 0 ≤ a.toInt) : a.toInt = (a.toBitVec.toNat : Int) := Jvm.Kit.i32_toInt_of_small (Jvm.Kit.i32_small_of_nonneg (by rw [Int32.le_iff_toInt_le]; exact h))
theorem own_sh {x y : Int32} (hx : 0 ≤ x.toInt ∧ x.toInt < 1048576) (hy : 0 ≤ y.toInt ∧ y.toInt < 64) : ((x <<< ((6 : Int32) &&& 31)) ||| y).toInt = x.toInt * 64 + y.toInt := by
  have e1 : (x <<< ((6 : Int32) &&& 31)).toInt = x.toInt * 2 ^ 6 := Jvm.Kit.i32_shl x _ (k := 6) (by decide) (by omega) (by omega)
  have hx0 := own_nat hx.1
  have hy0 := own_nat hy.1
  have hs0 := own_nat (a := x <<< ((6 : Int32) &&& 31)) (by rw [e1]; omega)
  have eo : ((x <<< ((6 : Int32) &&& 31)) ||| y).toBitVec.toNat = (x <<< ((6 : Int32) &&& 31)).toBitVec.toNat ||| y.toBitVec.toNat := by rw [Int32.toBitVec_or, BitVec.toNat_or]
  have eA : (x <<< ((6 : Int32) &&& 31)).toBitVec.toNat = 2 ^ 6 * x.toBitVec.toNat := by omega
  rw [eA, ← Nat.two_pow_add_eq_or_of_lt (by omega)] at eo
  have := Jvm.Kit.i32_toInt_of_small (y := (x <<< ((6 : Int32) &&& 31)) ||| y) (by rw [eo]; omega)
  rw [this, eo]
  omega
theorem own_ltT {x k : Int32} {e m : Int} (hx : x.toInt = e) (hk : k.toInt = m) (h : e < m) : x < k := Int32.lt_iff_toInt_lt.mpr (by rw [hx, hk]; exact h)
theorem own_ltF {x k : Int32} {e m : Int} (hx : x.toInt = e) (hk : k.toInt = m) (h : m ≤ e) : ¬ x < k := fun q => by have := Int32.lt_iff_toInt_lt.mp q; omega
theorem own_gtT {x k : Int32} {e m : Int} (hx : x.toInt = e) (hk : k.toInt = m) (h : m < e) : k < x := Int32.lt_iff_toInt_lt.mpr (by rw [hx, hk]; exact h)
theorem own_gtF {x k : Int32} {e m : Int} (hx : x.toInt = e) (hk : k.toInt = m) (h : e ≤ m) : ¬ k < x := fun q => by have := Int32.lt_iff_toInt_lt.mp q; omega
theorem own_eqT {x k : Int32} {e m : Int} (hx : x.toInt = e) (hk : k.toInt = m) (h : e = m) : x = k := Int32.toInt_inj.mp (by rw [hx, hk]; exact h)
theorem own_eqF {x k : Int32} {e m : Int} (hx : x.toInt = e) (hk : k.toInt = m) (h : e ≠ m) : ¬ x = k := fun q => h (by rw [← hx, ← hk, q])
set_option maxHeartbeats 40000000 in
set_option maxRecDepth 65536 in
theorem own_B0 (f g : Nat → Int32) (hf : ∀ k, 0 ≤ (f k).toInt ∧ (f k).toInt ≤ 255) (hg : ∀ k, g k = (f k).toInt8.toInt32) (i en : Int32) (h0 : 0 ≤ i.toInt) (h1 : i < en) :
    ∃ V : Int32, own_ch_0 g en i = V ∧ own_cl_0 f i en = V ∧ (V = (0 : Int32) ∨ (1 ≤ V.toInt ∧ i.toInt + V.toInt ≤ en.toInt)) := by
  rw [Int32.lt_iff_toInt_lt] at h1
  have hL := own_sub h0 (Int.le_of_lt h1)
  have F1 : ∀ k, ((f k).toInt8.toInt32 &&& (255 : Int32)) = f k := fun k => own_F1 (hf k)
  have F2 : ∀ k, (((f k).toInt8.toInt32 &&& (192 : Int32)) = (128 : Int32)) ↔ (128 ≤ (f k).toInt ∧ (f k).toInt ≤ 191) := fun k => own_F2 (hf k)
  have F3 : ∀ k, ((f k &&& (192 : Int32)) = (128 : Int32)) ↔ (128 ≤ (f k).toInt ∧ (f k).toInt ≤ 191) := fun k => own_F3 (hf k)
  have F4 : ∀ k, ((f k &&& (224 : Int32)) = (192 : Int32)) ↔ (192 ≤ (f k).toInt ∧ (f k).toInt ≤ 223) := fun k => own_F4 (hf k)
  have F5 : ∀ k, ((f k &&& (240 : Int32)) = (224 : Int32)) ↔ (224 ≤ (f k).toInt ∧ (f k).toInt ≤ 239) := fun k => own_F5 (hf k)
  have F6 : ∀ k, ((f k &&& (248 : Int32)) = (240 : Int32)) ↔ (240 ≤ (f k).toInt ∧ (f k).toInt ≤ 247) := fun k => own_F6 (hf k)
  have m6 : ∀ k, (f k &&& (63 : Int32)).toInt = (f k).toInt % 64 := fun k => Jvm.Kit.i32_mask _ 63 (k := 6) (by decide) (by decide)
  have m5 : ∀ k, (f k &&& (31 : Int32)).toInt = (f k).toInt % 32 := fun k => Jvm.Kit.i32_mask _ 31 (k := 5) (by decide) (by decide)
  have m4 : ∀ k, (f k &&& (15 : Int32)).toInt = (f k).toInt % 16 := fun k => Jvm.Kit.i32_mask _ 15 (k := 4) (by decide) (by decide)
  have m3 : ∀ k, (f k &&& (7 : Int32)).toInt = (f k).toInt % 8 := fun k => Jvm.Kit.i32_mask _ 7 (k := 3) (by decide) (by decide)
  have c2 : ∀ k l, (((f k &&& (31 : Int32)) <<< ((6 : Int32) &&& 31)) ||| (f l &&& (63 : Int32))).toInt = (f k).toInt % 32 * 64 + (f l).toInt % 64 := fun k l => by
    rw [own_sh (by rw [m5]; omega) (by rw [m6]; omega), m5, m6]
  have c3a : ∀ k l, (((f k &&& (15 : Int32)) <<< ((6 : Int32) &&& 31)) ||| (f l &&& (63 : Int32))).toInt = (f k).toInt % 16 * 64 + (f l).toInt % 64 := fun k l => by
    rw [own_sh (by rw [m4]; omega) (by rw [m6]; omega), m4, m6]
  have c3 : ∀ k l m, (((((f k &&& (15 : Int32)) <<< ((6 : Int32) &&& 31)) ||| (f l &&& (63 : Int32))) <<< ((6 : Int32) &&& 31)) ||| (f m &&& (63 : Int32))).toInt = ((f k).toInt % 16 * 64 + (f l).toInt % 64) * 64 + (f m).toInt % 64 := fun k l m => by
    rw [own_sh (by rw [c3a]; omega) (by rw [m6]; omega), c3a, m6]
  have c4a : ∀ k l, (((f k &&& (7 : Int32)) <<< ((6 : Int32) &&& 31)) ||| (f l &&& (63 : Int32))).toInt = (f k).toInt % 8 * 64 + (f l).toInt % 64 := fun k l => by
    rw [own_sh (by rw [m3]; omega) (by rw [m6]; omega), m3, m6]
  have c4b : ∀ k l m, (((((f k &&& (7 : Int32)) <<< ((6 : Int32) &&& 31)) ||| (f l &&& (63 : Int32))) <<< ((6 : Int32) &&& 31)) ||| (f m &&& (63 : Int32))).toInt = ((f k).toInt % 8 * 64 + (f l).toInt % 64) * 64 + (f m).toInt % 64 := fun k l m => by
    rw [own_sh (by rw [c4a]; omega) (by rw [m6]; omega), c4a, m6]
  have c4 : ∀ k l m n, (((((((f k &&& (7 : Int32)) <<< ((6 : Int32) &&& 31)) ||| (f l &&& (63 : Int32))) <<< ((6 : Int32) &&& 31)) ||| (f m &&& (63 : Int32))) <<< ((6 : Int32) &&& 31)) ||| (f n &&& (63 : Int32))).toInt = (((f k).toInt % 8 * 64 + (f l).toInt % 64) * 64 + (f m).toInt % 64) * 64 + (f n).toInt % 64 := fun k l m n => by
    rw [own_sh (by rw [c4b]; omega) (by rw [m6]; omega), c4b, m6]
  have F2g : ∀ k, ((g k &&& (192 : Int32)) = (128 : Int32)) ↔ (128 ≤ (f k).toInt ∧ (f k).toInt ≤ 191) := fun k => by rw [hg]; exact own_F2 (hf k)
  have G1 : ∀ k, (g k &&& (255 : Int32)) = f k := fun k => by rw [hg]; exact own_F1 (hf k)
  have b0 := hf i.toNatClampNeg
  have b1 := hf (i + (1 : Int32)).toNatClampNeg
  have b2 := hf (i + (2 : Int32)).toNatClampNeg
  have b3 := hf (i + (3 : Int32)).toNatClampNeg
  obtain ⟨C, hC⟩ : ∃ z, z = (f i.toNatClampNeg).toInt := ⟨_, rfl⟩
  obtain ⟨D, hD⟩ : ∃ z, z = (f (i + (1 : Int32)).toNatClampNeg).toInt := ⟨_, rfl⟩
  obtain ⟨E, hE⟩ : ∃ z, z = (f (i + (2 : Int32)).toNatClampNeg).toInt := ⟨_, rfl⟩
  obtain ⟨G, hG⟩ : ∃ z, z = (f (i + (3 : Int32)).toNatClampNeg).toInt := ⟨_, rfl⟩
  obtain ⟨L, hLd⟩ : ∃ z, z = en.toInt - i.toInt := ⟨_, rfl⟩
  by_cases hh1 : C < 128
  · exact ⟨(1 : Int32), by rw [own_ch_0, G1 i.toNatClampNeg, own_ch_23, if_pos (own_ltT (x := f i.toNatClampNeg) rfl (k := (128 : Int32)) (m := 128) rfl (by omega))], by rw [own_cl_0, own_cl_4, if_pos (own_ltT (x := f i.toNatClampNeg) rfl (k := (128 : Int32)) (m := 128) rfl (by omega))], Or.inr ⟨by decide, by show _ + (1 : Int) ≤ _; omega⟩⟩
  · by_cases hh2 : C < 194
    · by_cases hh3 : C < 192
      · exact ⟨(0 : Int32), by rw [own_ch_0, G1 i.toNatClampNeg, own_ch_23, if_neg (own_ltF (x := f i.toNatClampNeg) rfl (k := (128 : Int32)) (m := 128) rfl (by omega)), if_pos (own_ltT (x := f i.toNatClampNeg) rfl (k := (194 : Int32)) (m := 194) rfl (by omega)), own_ch_69, if_pos (own_ltT (x := f i.toNatClampNeg) rfl (k := (224 : Int32)) (m := 224) rfl (by omega)), own_ch_127, if_pos (own_ltT (x := f i.toNatClampNeg) rfl (k := (240 : Int32)) (m := 240) rfl (by omega))], by rw [own_cl_0, own_cl_4, if_neg (own_ltF (x := f i.toNatClampNeg) rfl (k := (128 : Int32)) (m := 128) rfl (by omega)), if_neg (fun q => by have := (F4 i.toNatClampNeg).mp q; omega), if_neg (fun q => by have := (F5 i.toNatClampNeg).mp q; omega), if_neg (fun q => by have := (F6 i.toNatClampNeg).mp q; omega)], Or.inl rfl⟩
      · by_cases hh4 : L < 2
        · exact ⟨(0 : Int32), by rw [own_ch_0, G1 i.toNatClampNeg, own_ch_23, if_neg (own_ltF (x := f i.toNatClampNeg) rfl (k := (128 : Int32)) (m := 128) rfl (by omega)), if_pos (own_ltT (x := f i.toNatClampNeg) rfl (k := (194 : Int32)) (m := 194) rfl (by omega)), own_ch_69, if_pos (own_ltT (x := f i.toNatClampNeg) rfl (k := (224 : Int32)) (m := 224) rfl (by omega)), own_ch_127, if_pos (own_ltT (x := f i.toNatClampNeg) rfl (k := (240 : Int32)) (m := 240) rfl (by omega))], by rw [own_cl_0, own_cl_4, if_neg (own_ltF (x := f i.toNatClampNeg) rfl (k := (128 : Int32)) (m := 128) rfl (by omega)), if_pos ((F4 i.toNatClampNeg).mpr ⟨by omega, by omega⟩), own_cl_84_2, if_pos (own_ltT hL (k := (2 : Int32)) (m := 2) rfl (by omega))], Or.inl rfl⟩
        · by_cases hh5 : D < 128
          · exact ⟨(0 : Int32), by rw [own_ch_0, G1 i.toNatClampNeg, own_ch_23, if_neg (own_ltF (x := f i.toNatClampNeg) rfl (k := (128 : Int32)) (m := 128) rfl (by omega)), if_pos (own_ltT (x := f i.toNatClampNeg) rfl (k := (194 : Int32)) (m := 194) rfl (by omega)), own_ch_69, if_pos (own_ltT (x := f i.toNatClampNeg) rfl (k := (224 : Int32)) (m := 224) rfl (by omega)), own_ch_127, if_pos (own_ltT (x := f i.toNatClampNeg) rfl (k := (240 : Int32)) (m := 240) rfl (by omega))], by rw [own_cl_0, own_cl_4, if_neg (own_ltF (x := f i.toNatClampNeg) rfl (k := (128 : Int32)) (m := 128) rfl (by omega)), if_pos ((F4 i.toNatClampNeg).mpr ⟨by omega, by omega⟩), own_cl_84_2, if_neg (own_ltF hL (k := (2 : Int32)) (m := 2) rfl (by omega)), if_neg (fun q => by have := (F3 (i + (1 : Int32)).toNatClampNeg).mp q; omega)], Or.inl rfl⟩
          · by_cases hh6 : D < 192
            · exact ⟨(0 : Int32), by rw [own_ch_0, G1 i.toNatClampNeg, own_ch_23, if_neg (own_ltF (x := f i.toNatClampNeg) rfl (k := (128 : Int32)) (m := 128) rfl (by omega)), if_pos (own_ltT (x := f i.toNatClampNeg) rfl (k := (194 : Int32)) (m := 194) rfl (by omega)), own_ch_69, if_pos (own_ltT (x := f i.toNatClampNeg) rfl (k := (224 : Int32)) (m := 224) rfl (by omega)), own_ch_127, if_pos (own_ltT (x := f i.toNatClampNeg) rfl (k := (240 : Int32)) (m := 240) rfl (by omega))], by rw [own_cl_0, own_cl_4, if_neg (own_ltF (x := f i.toNatClampNeg) rfl (k := (128 : Int32)) (m := 128) rfl (by omega)), if_pos ((F4 i.toNatClampNeg).mpr ⟨by omega, by omega⟩), own_cl_84_2, if_neg (own_ltF hL (k := (2 : Int32)) (m := 2) rfl (by omega)), if_pos ((F3 (i + (1 : Int32)).toNatClampNeg).mpr ⟨by omega, by omega⟩), own_cl_127_2, own_cl_166_2, own_cl_205_2, if_pos (own_ltT (c2 i.toNatClampNeg (i + (1 : Int32)).toNatClampNeg) (k := (128 : Int32)) (m := 128) rfl (by omega))], Or.inl rfl⟩
            · exact ⟨(0 : Int32), by rw [own_ch_0, G1 i.toNatClampNeg, own_ch_23, if_neg (own_ltF (x := f i.toNatClampNeg) rfl (k := (128 : Int32)) (m := 128) rfl (by omega)), if_pos (own_ltT (x := f i.toNatClampNeg) rfl (k := (194 : Int32)) (m := 194) rfl (by omega)), own_ch_69, if_pos (own_ltT (x := f i.toNatClampNeg) rfl (k := (224 : Int32)) (m := 224) rfl (by omega)), own_ch_127, if_pos (own_ltT (x := f i.toNatClampNeg) rfl (k := (240 : Int32)) (m := 240) rfl (by omega))], by rw [own_cl_0, own_cl_4, if_neg (own_ltF (x := f i.toNatClampNeg) rfl (k := (128 : Int32)) (m := 128) rfl (by omega)), if_pos ((F4 i.toNatClampNeg).mpr ⟨by omega, by omega⟩), own_cl_84_2, if_neg (own_ltF hL (k := (2 : Int32)) (m := 2) rfl (by omega)), if_neg (fun q => by have := (F3 (i + (1 : Int32)).toNatClampNeg).mp q; omega)], Or.inl rfl⟩
    · by_cases hh7 : C < 224
      · by_cases hh8 : L < 2
        · exact ⟨(0 : Int32), by rw [own_ch_0, G1 i.toNatClampNeg, own_ch_23, if_neg (own_ltF (x := f i.toNatClampNeg) rfl (k := (128 : Int32)) (m := 128) rfl (by omega)), if_neg (own_ltF (x := f i.toNatClampNeg) rfl (k := (194 : Int32)) (m := 194) rfl (by omega)), if_neg (own_gtF (x := f i.toNatClampNeg) rfl (k := (223 : Int32)) (m := 223) rfl (by omega)), own_ch_187_1_128_191, if_neg (own_gtF hL (k := (1 : Int32)) (m := 1) rfl (by omega))], by rw [own_cl_0, own_cl_4, if_neg (own_ltF (x := f i.toNatClampNeg) rfl (k := (128 : Int32)) (m := 128) rfl (by omega)), if_pos ((F4 i.toNatClampNeg).mpr ⟨by omega, by omega⟩), own_cl_84_2, if_pos (own_ltT hL (k := (2 : Int32)) (m := 2) rfl (by omega))], Or.inl rfl⟩
        · by_cases hh9 : D < 128
          · exact ⟨(0 : Int32), by rw [own_ch_0, G1 i.toNatClampNeg, own_ch_23, if_neg (own_ltF (x := f i.toNatClampNeg) rfl (k := (128 : Int32)) (m := 128) rfl (by omega)), if_neg (own_ltF (x := f i.toNatClampNeg) rfl (k := (194 : Int32)) (m := 194) rfl (by omega)), if_neg (own_gtF (x := f i.toNatClampNeg) rfl (k := (223 : Int32)) (m := 223) rfl (by omega)), own_ch_187_1_128_191, if_pos (own_gtT hL (k := (1 : Int32)) (m := 1) rfl (by omega)), G1 (i + (1 : Int32)).toNatClampNeg, own_ch_210_1_128_191, if_pos (own_ltT (x := f (i + (1 : Int32)).toNatClampNeg) rfl (k := (128 : Int32)) (m := 128) rfl (by omega))], by rw [own_cl_0, own_cl_4, if_neg (own_ltF (x := f i.toNatClampNeg) rfl (k := (128 : Int32)) (m := 128) rfl (by omega)), if_pos ((F4 i.toNatClampNeg).mpr ⟨by omega, by omega⟩), own_cl_84_2, if_neg (own_ltF hL (k := (2 : Int32)) (m := 2) rfl (by omega)), if_neg (fun q => by have := (F3 (i + (1 : Int32)).toNatClampNeg).mp q; omega)], Or.inl rfl⟩
          · by_cases hh10 : D < 192
            · exact ⟨(2 : Int32), by rw [own_ch_0, G1 i.toNatClampNeg, own_ch_23, if_neg (own_ltF (x := f i.toNatClampNeg) rfl (k := (128 : Int32)) (m := 128) rfl (by omega)), if_neg (own_ltF (x := f i.toNatClampNeg) rfl (k := (194 : Int32)) (m := 194) rfl (by omega)), if_neg (own_gtF (x := f i.toNatClampNeg) rfl (k := (223 : Int32)) (m := 223) rfl (by omega)), own_ch_187_1_128_191, if_pos (own_gtT hL (k := (1 : Int32)) (m := 1) rfl (by omega)), G1 (i + (1 : Int32)).toNatClampNeg, own_ch_210_1_128_191, if_neg (own_ltF (x := f (i + (1 : Int32)).toNatClampNeg) rfl (k := (128 : Int32)) (m := 128) rfl (by omega)), if_neg (own_gtF (x := f (i + (1 : Int32)).toNatClampNeg) rfl (k := (191 : Int32)) (m := 191) rfl (by omega)), own_ch_226_1], by rw [own_cl_0, own_cl_4, if_neg (own_ltF (x := f i.toNatClampNeg) rfl (k := (128 : Int32)) (m := 128) rfl (by omega)), if_pos ((F4 i.toNatClampNeg).mpr ⟨by omega, by omega⟩), own_cl_84_2, if_neg (own_ltF hL (k := (2 : Int32)) (m := 2) rfl (by omega)), if_pos ((F3 (i + (1 : Int32)).toNatClampNeg).mpr ⟨by omega, by omega⟩), own_cl_127_2, own_cl_166_2, own_cl_205_2, if_neg (own_ltF (c2 i.toNatClampNeg (i + (1 : Int32)).toNatClampNeg) (k := (128 : Int32)) (m := 128) rfl (by omega)), if_neg (own_gtF (c2 i.toNatClampNeg (i + (1 : Int32)).toNatClampNeg) (k := (1114111 : Int32)) (m := 1114111) rfl (by omega)), if_pos (own_ltT (c2 i.toNatClampNeg (i + (1 : Int32)).toNatClampNeg) (k := (55296 : Int32)) (m := 55296) rfl (by omega))], Or.inr ⟨by decide, by show _ + (2 : Int) ≤ _; omega⟩⟩
            · exact ⟨(0 : Int32), by rw [own_ch_0, G1 i.toNatClampNeg, own_ch_23, if_neg (own_ltF (x := f i.toNatClampNeg) rfl (k := (128 : Int32)) (m := 128) rfl (by omega)), if_neg (own_ltF (x := f i.toNatClampNeg) rfl (k := (194 : Int32)) (m := 194) rfl (by omega)), if_neg (own_gtF (x := f i.toNatClampNeg) rfl (k := (223 : Int32)) (m := 223) rfl (by omega)), own_ch_187_1_128_191, if_pos (own_gtT hL (k := (1 : Int32)) (m := 1) rfl (by omega)), G1 (i + (1 : Int32)).toNatClampNeg, own_ch_210_1_128_191, if_neg (own_ltF (x := f (i + (1 : Int32)).toNatClampNeg) rfl (k := (128 : Int32)) (m := 128) rfl (by omega)), if_pos (own_gtT (x := f (i + (1 : Int32)).toNatClampNeg) rfl (k := (191 : Int32)) (m := 191) rfl (by omega))], by rw [own_cl_0, own_cl_4, if_neg (own_ltF (x := f i.toNatClampNeg) rfl (k := (128 : Int32)) (m := 128) rfl (by omega)), if_pos ((F4 i.toNatClampNeg).mpr ⟨by omega, by omega⟩), own_cl_84_2, if_neg (own_ltF hL (k := (2 : Int32)) (m := 2) rfl (by omega)), if_neg (fun q => by have := (F3 (i + (1 : Int32)).toNatClampNeg).mp q; omega)], Or.inl rfl⟩
      · by_cases hh11 : C < 240
        · by_cases hh12 : C < 225
          · by_cases hh13 : L < 3
            · exact ⟨(0 : Int32), by rw [own_ch_0, G1 i.toNatClampNeg, own_ch_23, if_neg (own_ltF (x := f i.toNatClampNeg) rfl (k := (128 : Int32)) (m := 128) rfl (by omega)), if_neg (own_ltF (x := f i.toNatClampNeg) rfl (k := (194 : Int32)) (m := 194) rfl (by omega)), if_pos (own_gtT (x := f i.toNatClampNeg) rfl (k := (223 : Int32)) (m := 223) rfl (by omega)), own_ch_69, if_neg (own_ltF (x := f i.toNatClampNeg) rfl (k := (224 : Int32)) (m := 224) rfl (by omega)), if_neg (own_gtF (x := f i.toNatClampNeg) rfl (k := (239 : Int32)) (m := 239) rfl (by omega)), if_pos (own_eqT (x := f i.toNatClampNeg) rfl (k := (224 : Int32)) (m := 224) rfl (by omega)), if_neg (own_eqF (x := f i.toNatClampNeg) rfl (k := (237 : Int32)) (m := 237) rfl (by omega)), own_ch_187_2_160_191, if_neg (own_gtF hL (k := (2 : Int32)) (m := 2) rfl (by omega))], by rw [own_cl_0, own_cl_4, if_neg (own_ltF (x := f i.toNatClampNeg) rfl (k := (128 : Int32)) (m := 128) rfl (by omega)), if_neg (fun q => by have := (F4 i.toNatClampNeg).mp q; omega), if_pos ((F5 i.toNatClampNeg).mpr ⟨by omega, by omega⟩), own_cl_84_3, if_pos (own_ltT hL (k := (3 : Int32)) (m := 3) rfl (by omega))], Or.inl rfl⟩
            · by_cases hh14 : D < 160
              · by_cases hh15 : D < 128
                · exact ⟨(0 : Int32), by rw [own_ch_0, G1 i.toNatClampNeg, own_ch_23, if_neg (own_ltF (x := f i.toNatClampNeg) rfl (k := (128 : Int32)) (m := 128) rfl (by omega)), if_neg (own_ltF (x := f i.toNatClampNeg) rfl (k := (194 : Int32)) (m := 194) rfl (by omega)), if_pos (own_gtT (x := f i.toNatClampNeg) rfl (k := (223 : Int32)) (m := 223) rfl (by omega)), own_ch_69, if_neg (own_ltF (x := f i.toNatClampNeg) rfl (k := (224 : Int32)) (m := 224) rfl (by omega)), if_neg (own_gtF (x := f i.toNatClampNeg) rfl (k := (239 : Int32)) (m := 239) rfl (by omega)), if_pos (own_eqT (x := f i.toNatClampNeg) rfl (k := (224 : Int32)) (m := 224) rfl (by omega)), if_neg (own_eqF (x := f i.toNatClampNeg) rfl (k := (237 : Int32)) (m := 237) rfl (by omega)), own_ch_187_2_160_191, if_pos (own_gtT hL (k := (2 : Int32)) (m := 2) rfl (by omega)), G1 (i + (1 : Int32)).toNatClampNeg, own_ch_210_2_160_191, if_pos (own_ltT (x := f (i + (1 : Int32)).toNatClampNeg) rfl (k := (160 : Int32)) (m := 160) rfl (by omega))], by rw [own_cl_0, own_cl_4, if_neg (own_ltF (x := f i.toNatClampNeg) rfl (k := (128 : Int32)) (m := 128) rfl (by omega)), if_neg (fun q => by have := (F4 i.toNatClampNeg).mp q; omega), if_pos ((F5 i.toNatClampNeg).mpr ⟨by omega, by omega⟩), own_cl_84_3, if_neg (own_ltF hL (k := (3 : Int32)) (m := 3) rfl (by omega)), if_neg (fun q => by have := (F3 (i + (1 : Int32)).toNatClampNeg).mp q; omega)], Or.inl rfl⟩
                · by_cases hh16 : E < 128
                  · exact ⟨(0 : Int32), by rw [own_ch_0, G1 i.toNatClampNeg, own_ch_23, if_neg (own_ltF (x := f i.toNatClampNeg) rfl (k := (128 : Int32)) (m := 128) rfl (by omega)), if_neg (own_ltF (x := f i.toNatClampNeg) rfl (k := (194 : Int32)) (m := 194) rfl (by omega)), if_pos (own_gtT (x := f i.toNatClampNeg) rfl (k := (223 : Int32)) (m := 223) rfl (by omega)), own_ch_69, if_neg (own_ltF (x := f i.toNatClampNeg) rfl (k := (224 : Int32)) (m := 224) rfl (by omega)), if_neg (own_gtF (x := f i.toNatClampNeg) rfl (k := (239 : Int32)) (m := 239) rfl (by omega)), if_pos (own_eqT (x := f i.toNatClampNeg) rfl (k := (224 : Int32)) (m := 224) rfl (by omega)), if_neg (own_eqF (x := f i.toNatClampNeg) rfl (k := (237 : Int32)) (m := 237) rfl (by omega)), own_ch_187_2_160_191, if_pos (own_gtT hL (k := (2 : Int32)) (m := 2) rfl (by omega)), G1 (i + (1 : Int32)).toNatClampNeg, own_ch_210_2_160_191, if_pos (own_ltT (x := f (i + (1 : Int32)).toNatClampNeg) rfl (k := (160 : Int32)) (m := 160) rfl (by omega))], by rw [own_cl_0, own_cl_4, if_neg (own_ltF (x := f i.toNatClampNeg) rfl (k := (128 : Int32)) (m := 128) rfl (by omega)), if_neg (fun q => by have := (F4 i.toNatClampNeg).mp q; omega), if_pos ((F5 i.toNatClampNeg).mpr ⟨by omega, by omega⟩), own_cl_84_3, if_neg (own_ltF hL (k := (3 : Int32)) (m := 3) rfl (by omega)), if_pos ((F3 (i + (1 : Int32)).toNatClampNeg).mpr ⟨by omega, by omega⟩), own_cl_127_3, if_neg (fun q => by have := (F3 (i + (2 : Int32)).toNatClampNeg).mp q; omega)], Or.inl rfl⟩
                  · by_cases hh17 : E < 192
                    · exact ⟨(0 : Int32), by rw [own_ch_0, G1 i.toNatClampNeg, own_ch_23, if_neg (own_ltF (x := f i.toNatClampNeg) rfl (k := (128 : Int32)) (m := 128) rfl (by omega)), if_neg (own_ltF (x := f i.toNatClampNeg) rfl (k := (194 : Int32)) (m := 194) rfl (by omega)), if_pos (own_gtT (x := f i.toNatClampNeg) rfl (k := (223 : Int32)) (m := 223) rfl (by omega)), own_ch_69, if_neg (own_ltF (x := f i.toNatClampNeg) rfl (k := (224 : Int32)) (m := 224) rfl (by omega)), if_neg (own_gtF (x := f i.toNatClampNeg) rfl (k := (239 : Int32)) (m := 239) rfl (by omega)), if_pos (own_eqT (x := f i.toNatClampNeg) rfl (k := (224 : Int32)) (m := 224) rfl (by omega)), if_neg (own_eqF (x := f i.toNatClampNeg) rfl (k := (237 : Int32)) (m := 237) rfl (by omega)), own_ch_187_2_160_191, if_pos (own_gtT hL (k := (2 : Int32)) (m := 2) rfl (by omega)), G1 (i + (1 : Int32)).toNatClampNeg, own_ch_210_2_160_191, if_pos (own_ltT (x := f (i + (1 : Int32)).toNatClampNeg) rfl (k := (160 : Int32)) (m := 160) rfl (by omega))], by rw [own_cl_0, own_cl_4, if_neg (own_ltF (x := f i.toNatClampNeg) rfl (k := (128 : Int32)) (m := 128) rfl (by omega)), if_neg (fun q => by have := (F4 i.toNatClampNeg).mp q; omega), if_pos ((F5 i.toNatClampNeg).mpr ⟨by omega, by omega⟩), own_cl_84_3, if_neg (own_ltF hL (k := (3 : Int32)) (m := 3) rfl (by omega)), if_pos ((F3 (i + (1 : Int32)).toNatClampNeg).mpr ⟨by omega, by omega⟩), own_cl_127_3, if_pos ((F3 (i + (2 : Int32)).toNatClampNeg).mpr ⟨by omega, by omega⟩), own_cl_166_3, own_cl_205_3, if_pos (own_ltT (c3 i.toNatClampNeg (i + (1 : Int32)).toNatClampNeg (i + (2 : Int32)).toNatClampNeg) (k := (2048 : Int32)) (m := 2048) rfl (by omega))], Or.inl rfl⟩
                    · exact ⟨(0 : Int32), by rw [own_ch_0, G1 i.toNatClampNeg, own_ch_23, if_neg (own_ltF (x := f i.toNatClampNeg) rfl (k := (128 : Int32)) (m := 128) rfl (by omega)), if_neg (own_ltF (x := f i.toNatClampNeg) rfl (k := (194 : Int32)) (m := 194) rfl (by omega)), if_pos (own_gtT (x := f i.toNatClampNeg) rfl (k := (223 : Int32)) (m := 223) rfl (by omega)), own_ch_69, if_neg (own_ltF (x := f i.toNatClampNeg) rfl (k := (224 : Int32)) (m := 224) rfl (by omega)), if_neg (own_gtF (x := f i.toNatClampNeg) rfl (k := (239 : Int32)) (m := 239) rfl (by omega)), if_pos (own_eqT (x := f i.toNatClampNeg) rfl (k := (224 : Int32)) (m := 224) rfl (by omega)), if_neg (own_eqF (x := f i.toNatClampNeg) rfl (k := (237 : Int32)) (m := 237) rfl (by omega)), own_ch_187_2_160_191, if_pos (own_gtT hL (k := (2 : Int32)) (m := 2) rfl (by omega)), G1 (i + (1 : Int32)).toNatClampNeg, own_ch_210_2_160_191, if_pos (own_ltT (x := f (i + (1 : Int32)).toNatClampNeg) rfl (k := (160 : Int32)) (m := 160) rfl (by omega))], by rw [own_cl_0, own_cl_4, if_neg (own_ltF (x := f i.toNatClampNeg) rfl (k := (128 : Int32)) (m := 128) rfl (by omega)), if_neg (fun q => by have := (F4 i.toNatClampNeg).mp q; omega), if_pos ((F5 i.toNatClampNeg).mpr ⟨by omega, by omega⟩), own_cl_84_3, if_neg (own_ltF hL (k := (3 : Int32)) (m := 3) rfl (by omega)), if_pos ((F3 (i + (1 : Int32)).toNatClampNeg).mpr ⟨by omega, by omega⟩), own_cl_127_3, if_neg (fun q => by have := (F3 (i + (2 : Int32)).toNatClampNeg).mp q; omega)], Or.inl rfl⟩
              · by_cases hh18 : D < 192
                · by_cases hh19 : E < 128
                  · exact ⟨(0 : Int32), by rw [own_ch_0, G1 i.toNatClampNeg, own_ch_23, if_neg (own_ltF (x := f i.toNatClampNeg) rfl (k := (128 : Int32)) (m := 128) rfl (by omega)), if_neg (own_ltF (x := f i.toNatClampNeg) rfl (k := (194 : Int32)) (m := 194) rfl (by omega)), if_pos (own_gtT (x := f i.toNatClampNeg) rfl (k := (223 : Int32)) (m := 223) rfl (by omega)), own_ch_69, if_neg (own_ltF (x := f i.toNatClampNeg) rfl (k := (224 : Int32)) (m := 224) rfl (by omega)), if_neg (own_gtF (x := f i.toNatClampNeg) rfl (k := (239 : Int32)) (m := 239) rfl (by omega)), if_pos (own_eqT (x := f i.toNatClampNeg) rfl (k := (224 : Int32)) (m := 224) rfl (by omega)), if_neg (own_eqF (x := f i.toNatClampNeg) rfl (k := (237 : Int32)) (m := 237) rfl (by omega)), own_ch_187_2_160_191, if_pos (own_gtT hL (k := (2 : Int32)) (m := 2) rfl (by omega)), G1 (i + (1 : Int32)).toNatClampNeg, own_ch_210_2_160_191, if_neg (own_ltF (x := f (i + (1 : Int32)).toNatClampNeg) rfl (k := (160 : Int32)) (m := 160) rfl (by omega)), if_neg (own_gtF (x := f (i + (1 : Int32)).toNatClampNeg) rfl (k := (191 : Int32)) (m := 191) rfl (by omega)), own_ch_226_2, if_neg (fun q => by have := (F2g (i + (2 : Int32)).toNatClampNeg).mp q; omega)], by rw [own_cl_0, own_cl_4, if_neg (own_ltF (x := f i.toNatClampNeg) rfl (k := (128 : Int32)) (m := 128) rfl (by omega)), if_neg (fun q => by have := (F4 i.toNatClampNeg).mp q; omega), if_pos ((F5 i.toNatClampNeg).mpr ⟨by omega, by omega⟩), own_cl_84_3, if_neg (own_ltF hL (k := (3 : Int32)) (m := 3) rfl (by omega)), if_pos ((F3 (i + (1 : Int32)).toNatClampNeg).mpr ⟨by omega, by omega⟩), own_cl_127_3, if_neg (fun q => by have := (F3 (i + (2 : Int32)).toNatClampNeg).mp q; omega)], Or.inl rfl⟩
                  · by_cases hh20 : E < 192
                    · exact ⟨(3 : Int32), by rw [own_ch_0, G1 i.toNatClampNeg, own_ch_23, if_neg (own_ltF (x := f i.toNatClampNeg) rfl (k := (128 : Int32)) (m := 128) rfl (by omega)), if_neg (own_ltF (x := f i.toNatClampNeg) rfl (k := (194 : Int32)) (m := 194) rfl (by omega)), if_pos (own_gtT (x := f i.toNatClampNeg) rfl (k := (223 : Int32)) (m := 223) rfl (by omega)), own_ch_69, if_neg (own_ltF (x := f i.toNatClampNeg) rfl (k := (224 : Int32)) (m := 224) rfl (by omega)), if_neg (own_gtF (x := f i.toNatClampNeg) rfl (k := (239 : Int32)) (m := 239) rfl (by omega)), if_pos (own_eqT (x := f i.toNatClampNeg) rfl (k := (224 : Int32)) (m := 224) rfl (by omega)), if_neg (own_eqF (x := f i.toNatClampNeg) rfl (k := (237 : Int32)) (m := 237) rfl (by omega)), own_ch_187_2_160_191, if_pos (own_gtT hL (k := (2 : Int32)) (m := 2) rfl (by omega)), G1 (i + (1 : Int32)).toNatClampNeg, own_ch_210_2_160_191, if_neg (own_ltF (x := f (i + (1 : Int32)).toNatClampNeg) rfl (k := (160 : Int32)) (m := 160) rfl (by omega)), if_neg (own_gtF (x := f (i + (1 : Int32)).toNatClampNeg) rfl (k := (191 : Int32)) (m := 191) rfl (by omega)), own_ch_226_2, if_pos ((F2g (i + (2 : Int32)).toNatClampNeg).mpr ⟨by omega, by omega⟩)], by rw [own_cl_0, own_cl_4, if_neg (own_ltF (x := f i.toNatClampNeg) rfl (k := (128 : Int32)) (m := 128) rfl (by omega)), if_neg (fun q => by have := (F4 i.toNatClampNeg).mp q; omega), if_pos ((F5 i.toNatClampNeg).mpr ⟨by omega, by omega⟩), own_cl_84_3, if_neg (own_ltF hL (k := (3 : Int32)) (m := 3) rfl (by omega)), if_pos ((F3 (i + (1 : Int32)).toNatClampNeg).mpr ⟨by omega, by omega⟩), own_cl_127_3, if_pos ((F3 (i + (2 : Int32)).toNatClampNeg).mpr ⟨by omega, by omega⟩), own_cl_166_3, own_cl_205_3, if_neg (own_ltF (c3 i.toNatClampNeg (i + (1 : Int32)).toNatClampNeg (i + (2 : Int32)).toNatClampNeg) (k := (2048 : Int32)) (m := 2048) rfl (by omega)), if_neg (own_gtF (c3 i.toNatClampNeg (i + (1 : Int32)).toNatClampNeg (i + (2 : Int32)).toNatClampNeg) (k := (1114111 : Int32)) (m := 1114111) rfl (by omega)), if_pos (own_ltT (c3 i.toNatClampNeg (i + (1 : Int32)).toNatClampNeg (i + (2 : Int32)).toNatClampNeg) (k := (55296 : Int32)) (m := 55296) rfl (by omega))], Or.inr ⟨by decide, by show _ + (3 : Int) ≤ _; omega⟩⟩
                    · exact ⟨(0 : Int32), by rw [own_ch_0, G1 i.toNatClampNeg, own_ch_23, if_neg (own_ltF (x := f i.toNatClampNeg) rfl (k := (128 : Int32)) (m := 128) rfl (by omega)), if_neg (own_ltF (x := f i.toNatClampNeg) rfl (k := (194 : Int32)) (m := 194) rfl (by omega)), if_pos (own_gtT (x := f i.toNatClampNeg) rfl (k := (223 : Int32)) (m := 223) rfl (by omega)), own_ch_69, if_neg (own_ltF (x := f i.toNatClampNeg) rfl (k := (224 : Int32)) (m := 224) rfl (by omega)), if_neg (own_gtF (x := f i.toNatClampNeg) rfl (k := (239 : Int32)) (m := 239) rfl (by omega)), if_pos (own_eqT (x := f i.toNatClampNeg) rfl (k := (224 : Int32)) (m := 224) rfl (by omega)), if_neg (own_eqF (x := f i.toNatClampNeg) rfl (k := (237 : Int32)) (m := 237) rfl (by omega)), own_ch_187_2_160_191, if_pos (own_gtT hL (k := (2 : Int32)) (m := 2) rfl (by omega)), G1 (i + (1 : Int32)).toNatClampNeg, own_ch_210_2_160_191, if_neg (own_ltF (x := f (i + (1 : Int32)).toNatClampNeg) rfl (k := (160 : Int32)) (m := 160) rfl (by omega)), if_neg (own_gtF (x := f (i + (1 : Int32)).toNatClampNeg) rfl (k := (191 : Int32)) (m := 191) rfl (by omega)), own_ch_226_2, if_neg (fun q => by have := (F2g (i + (2 : Int32)).toNatClampNeg).mp q; omega)], by rw [own_cl_0, own_cl_4, if_neg (own_ltF (x := f i.toNatClampNeg) rfl (k := (128 : Int32)) (m := 128) rfl (by omega)), if_neg (fun q => by have := (F4 i.toNatClampNeg).mp q; omega), if_pos ((F5 i.toNatClampNeg).mpr ⟨by omega, by omega⟩), own_cl_84_3, if_neg (own_ltF hL (k := (3 : Int32)) (m := 3) rfl (by omega)), if_pos ((F3 (i + (1 : Int32)).toNatClampNeg).mpr ⟨by omega, by omega⟩), own_cl_127_3, if_neg (fun q => by have := (F3 (i + (2 : Int32)).toNatClampNeg).mp q; omega)], Or.inl rfl⟩
                · exact ⟨(0 : Int32), by rw [own_ch_0, G1 i.toNatClampNeg, own_ch_23, if_neg (own_ltF (x := f i.toNatClampNeg) rfl (k := (128 : Int32)) (m := 128) rfl (by omega)), if_neg (own_ltF (x := f i.toNatClampNeg) rfl (k := (194 : Int32)) (m := 194) rfl (by omega)), if_pos (own_gtT (x := f i.toNatClampNeg) rfl (k := (223 : Int32)) (m := 223) rfl (by omega)), own_ch_69, if_neg (own_ltF (x := f i.toNatClampNeg) rfl (k := (224 : Int32)) (m := 224) rfl (by omega)), if_neg (own_gtF (x := f i.toNatClampNeg) rfl (k := (239 : Int32)) (m := 239) rfl (by omega)), if_pos (own_eqT (x := f i.toNatClampNeg) rfl (k := (224 : Int32)) (m := 224) rfl (by omega)), if_neg (own_eqF (x := f i.toNatClampNeg) rfl (k := (237 : Int32)) (m := 237) rfl (by omega)), own_ch_187_2_160_191, if_pos (own_gtT hL (k := (2 : Int32)) (m := 2) rfl (by omega)), G1 (i + (1 : Int32)).toNatClampNeg, own_ch_210_2_160_191, if_neg (own_ltF (x := f (i + (1 : Int32)).toNatClampNeg) rfl (k := (160 : Int32)) (m := 160) rfl (by omega)), if_pos (own_gtT (x := f (i + (1 : Int32)).toNatClampNeg) rfl (k := (191 : Int32)) (m := 191) rfl (by omega))], by rw [own_cl_0, own_cl_4, if_neg (own_ltF (x := f i.toNatClampNeg) rfl (k := (128 : Int32)) (m := 128) rfl (by omega)), if_neg (fun q => by have := (F4 i.toNatClampNeg).mp q; omega), if_pos ((F5 i.toNatClampNeg).mpr ⟨by omega, by omega⟩), own_cl_84_3, if_neg (own_ltF hL (k := (3 : Int32)) (m := 3) rfl (by omega)), if_neg (fun q => by have := (F3 (i + (1 : Int32)).toNatClampNeg).mp q; omega)], Or.inl rfl⟩
          · by_cases hh21 : C < 237
            · by_cases hh22 : L < 3
              · exact ⟨(0 : Int32), by rw [own_ch_0, G1 i.toNatClampNeg, own_ch_23, if_neg (own_ltF (x := f i.toNatClampNeg) rfl (k := (128 : Int32)) (m := 128) rfl (by omega)), if_neg (own_ltF (x := f i.toNatClampNeg) rfl (k := (194 : Int32)) (m := 194) rfl (by omega)), if_pos (own_gtT (x := f i.toNatClampNeg) rfl (k := (223 : Int32)) (m := 223) rfl (by omega)), own_ch_69, if_neg (own_ltF (x := f i.toNatClampNeg) rfl (k := (224 : Int32)) (m := 224) rfl (by omega)), if_neg (own_gtF (x := f i.toNatClampNeg) rfl (k := (239 : Int32)) (m := 239) rfl (by omega)), if_neg (own_eqF (x := f i.toNatClampNeg) rfl (k := (224 : Int32)) (m := 224) rfl (by omega)), if_neg (own_eqF (x := f i.toNatClampNeg) rfl (k := (237 : Int32)) (m := 237) rfl (by omega)), own_ch_187_2_128_191, if_neg (own_gtF hL (k := (2 : Int32)) (m := 2) rfl (by omega))], by rw [own_cl_0, own_cl_4, if_neg (own_ltF (x := f i.toNatClampNeg) rfl (k := (128 : Int32)) (m := 128) rfl (by omega)), if_neg (fun q => by have := (F4 i.toNatClampNeg).mp q; omega), if_pos ((F5 i.toNatClampNeg).mpr ⟨by omega, by omega⟩), own_cl_84_3, if_pos (own_ltT hL (k := (3 : Int32)) (m := 3) rfl (by omega))], Or.inl rfl⟩
              · by_cases hh23 : D < 128
                · exact ⟨(0 : Int32), by rw [own_ch_0, G1 i.toNatClampNeg, own_ch_23, if_neg (own_ltF (x := f i.toNatClampNeg) rfl (k := (128 : Int32)) (m := 128) rfl (by omega)), if_neg (own_ltF (x := f i.toNatClampNeg) rfl (k := (194 : Int32)) (m := 194) rfl (by omega)), if_pos (own_gtT (x := f i.toNatClampNeg) rfl (k := (223 : Int32)) (m := 223) rfl (by omega)), own_ch_69, if_neg (own_ltF (x := f i.toNatClampNeg) rfl (k := (224 : Int32)) (m := 224) rfl (by omega)), if_neg (own_gtF (x := f i.toNatClampNeg) rfl (k := (239 : Int32)) (m := 239) rfl (by omega)), if_neg (own_eqF (x := f i.toNatClampNeg) rfl (k := (224 : Int32)) (m := 224) rfl (by omega)), if_neg (own_eqF (x := f i.toNatClampNeg) rfl (k := (237 : Int32)) (m := 237) rfl (by omega)), own_ch_187_2_128_191, if_pos (own_gtT hL (k := (2 : Int32)) (m := 2) rfl (by omega)), G1 (i + (1 : Int32)).toNatClampNeg, own_ch_210_2_128_191, if_pos (own_ltT (x := f (i + (1 : Int32)).toNatClampNeg) rfl (k := (128 : Int32)) (m := 128) rfl (by omega))], by rw [own_cl_0, own_cl_4, if_neg (own_ltF (x := f i.toNatClampNeg) rfl (k := (128 : Int32)) (m := 128) rfl (by omega)), if_neg (fun q => by have := (F4 i.toNatClampNeg).mp q; omega), if_pos ((F5 i.toNatClampNeg).mpr ⟨by omega, by omega⟩), own_cl_84_3, if_neg (own_ltF hL (k := (3 : Int32)) (m := 3) rfl (by omega)), if_neg (fun q => by have := (F3 (i + (1 : Int32)).toNatClampNeg).mp q; omega)], Or.inl rfl⟩
                · by_cases hh24 : D < 192
                  · by_cases hh25 : E < 128
                    · exact ⟨(0 : Int32), by rw [own_ch_0, G1 i.toNatClampNeg, own_ch_23, if_neg (own_ltF (x := f i.toNatClampNeg) rfl (k := (128 : Int32)) (m := 128) rfl (by omega)), if_neg (own_ltF (x := f i.toNatClampNeg) rfl (k := (194 : Int32)) (m := 194) rfl (by omega)), if_pos (own_gtT (x := f i.toNatClampNeg) rfl (k := (223 : Int32)) (m := 223) rfl (by omega)), own_ch_69, if_neg (own_ltF (x := f i.toNatClampNeg) rfl (k := (224 : Int32)) (m := 224) rfl (by omega)), if_neg (own_gtF (x := f i.toNatClampNeg) rfl (k := (239 : Int32)) (m := 239) rfl (by omega)), if_neg (own_eqF (x := f i.toNatClampNeg) rfl (k := (224 : Int32)) (m := 224) rfl (by omega)), if_neg (own_eqF (x := f i.toNatClampNeg) rfl (k := (237 : Int32)) (m := 237) rfl (by omega)), own_ch_187_2_128_191, if_pos (own_gtT hL (k := (2 : Int32)) (m := 2) rfl (by omega)), G1 (i + (1 : Int32)).toNatClampNeg, own_ch_210_2_128_191, if_neg (own_ltF (x := f (i + (1 : Int32)).toNatClampNeg) rfl (k := (128 : Int32)) (m := 128) rfl (by omega)), if_neg (own_gtF (x := f (i + (1 : Int32)).toNatClampNeg) rfl (k := (191 : Int32)) (m := 191) rfl (by omega)), own_ch_226_2, if_neg (fun q => by have := (F2g (i + (2 : Int32)).toNatClampNeg).mp q; omega)], by rw [own_cl_0, own_cl_4, if_neg (own_ltF (x := f i.toNatClampNeg) rfl (k := (128 : Int32)) (m := 128) rfl (by omega)), if_neg (fun q => by have := (F4 i.toNatClampNeg).mp q; omega), if_pos ((F5 i.toNatClampNeg).mpr ⟨by omega, by omega⟩), own_cl_84_3, if_neg (own_ltF hL (k := (3 : Int32)) (m := 3) rfl (by omega)), if_pos ((F3 (i + (1 : Int32)).toNatClampNeg).mpr ⟨by omega, by omega⟩), own_cl_127_3, if_neg (fun q => by have := (F3 (i + (2 : Int32)).toNatClampNeg).mp q; omega)], Or.inl rfl⟩
                    · by_cases hh26 : E < 192
                      · exact ⟨(3 : Int32), by rw [own_ch_0, G1 i.toNatClampNeg, own_ch_23, if_neg (own_ltF (x := f i.toNatClampNeg) rfl (k := (128 : Int32)) (m := 128) rfl (by omega)), if_neg (own_ltF (x := f i.toNatClampNeg) rfl (k := (194 : Int32)) (m := 194) rfl (by omega)), if_pos (own_gtT (x := f i.toNatClampNeg) rfl (k := (223 : Int32)) (m := 223) rfl (by omega)), own_ch_69, if_neg (own_ltF (x := f i.toNatClampNeg) rfl (k := (224 : Int32)) (m := 224) rfl (by omega)), if_neg (own_gtF (x := f i.toNatClampNeg) rfl (k := (239 : Int32)) (m := 239) rfl (by omega)), if_neg (own_eqF (x := f i.toNatClampNeg) rfl (k := (224 : Int32)) (m := 224) rfl (by omega)), if_neg (own_eqF (x := f i.toNatClampNeg) rfl (k := (237 : Int32)) (m := 237) rfl (by omega)), own_ch_187_2_128_191, if_pos (own_gtT hL (k := (2 : Int32)) (m := 2) rfl (by omega)), G1 (i + (1 : Int32)).toNatClampNeg, own_ch_210_2_128_191, if_neg (own_ltF (x := f (i + (1 : Int32)).toNatClampNeg) rfl (k := (128 : Int32)) (m := 128) rfl (by omega)), if_neg (own_gtF (x := f (i + (1 : Int32)).toNatClampNeg) rfl (k := (191 : Int32)) (m := 191) rfl (by omega)), own_ch_226_2, if_pos ((F2g (i + (2 : Int32)).toNatClampNeg).mpr ⟨by omega, by omega⟩)], by rw [own_cl_0, own_cl_4, if_neg (own_ltF (x := f i.toNatClampNeg) rfl (k := (128 : Int32)) (m := 128) rfl (by omega)), if_neg (fun q => by have := (F4 i.toNatClampNeg).mp q; omega), if_pos ((F5 i.toNatClampNeg).mpr ⟨by omega, by omega⟩), own_cl_84_3, if_neg (own_ltF hL (k := (3 : Int32)) (m := 3) rfl (by omega)), if_pos ((F3 (i + (1 : Int32)).toNatClampNeg).mpr ⟨by omega, by omega⟩), own_cl_127_3, if_pos ((F3 (i + (2 : Int32)).toNatClampNeg).mpr ⟨by omega, by omega⟩), own_cl_166_3, own_cl_205_3, if_neg (own_ltF (c3 i.toNatClampNeg (i + (1 : Int32)).toNatClampNeg (i + (2 : Int32)).toNatClampNeg) (k := (2048 : Int32)) (m := 2048) rfl (by omega)), if_neg (own_gtF (c3 i.toNatClampNeg (i + (1 : Int32)).toNatClampNeg (i + (2 : Int32)).toNatClampNeg) (k := (1114111 : Int32)) (m := 1114111) rfl (by omega)), if_pos (own_ltT (c3 i.toNatClampNeg (i + (1 : Int32)).toNatClampNeg (i + (2 : Int32)).toNatClampNeg) (k := (55296 : Int32)) (m := 55296) rfl (by omega))], Or.inr ⟨by decide, by show _ + (3 : Int) ≤ _; omega⟩⟩
                      · exact ⟨(0 : Int32), by rw [own_ch_0, G1 i.toNatClampNeg, own_ch_23, if_neg (own_ltF (x := f i.toNatClampNeg) rfl (k := (128 : Int32)) (m := 128) rfl (by omega)), if_neg (own_ltF (x := f i.toNatClampNeg) rfl (k := (194 : Int32)) (m := 194) rfl (by omega)), if_pos (own_gtT (x := f i.toNatClampNeg) rfl (k := (223 : Int32)) (m := 223) rfl (by omega)), own_ch_69, if_neg (own_ltF (x := f i.toNatClampNeg) rfl (k := (224 : Int32)) (m := 224) rfl (by omega)), if_neg (own_gtF (x := f i.toNatClampNeg) rfl (k := (239 : Int32)) (m := 239) rfl (by omega)), if_neg (own_eqF (x := f i.toNatClampNeg) rfl (k := (224 : Int32)) (m := 224) rfl (by omega)), if_neg (own_eqF (x := f i.toNatClampNeg) rfl (k := (237 : Int32)) (m := 237) rfl (by omega)), own_ch_187_2_128_191, if_pos (own_gtT hL (k := (2 : Int32)) (m := 2) rfl (by omega)), G1 (i + (1 : Int32)).toNatClampNeg, own_ch_210_2_128_191, if_neg (own_ltF (x := f (i + (1 : Int32)).toNatClampNeg) rfl (k := (128 : Int32)) (m := 128) rfl (by omega)), if_neg (own_gtF (x := f (i + (1 : Int32)).toNatClampNeg) rfl (k := (191 : Int32)) (m := 191) rfl (by omega)), own_ch_226_2, if_neg (fun q => by have := (F2g (i + (2 : Int32)).toNatClampNeg).mp q; omega)], by rw [own_cl_0, own_cl_4, if_neg (own_ltF (x := f i.toNatClampNeg) rfl (k := (128 : Int32)) (m := 128) rfl (by omega)), if_neg (fun q => by have := (F4 i.toNatClampNeg).mp q; omega), if_pos ((F5 i.toNatClampNeg).mpr ⟨by omega, by omega⟩), own_cl_84_3, if_neg (own_ltF hL (k := (3 : Int32)) (m := 3) rfl (by omega)), if_pos ((F3 (i + (1 : Int32)).toNatClampNeg).mpr ⟨by omega, by omega⟩), own_cl_127_3, if_neg (fun q => by have := (F3 (i + (2 : Int32)).toNatClampNeg).mp q; omega)], Or.inl rfl⟩
                  · exact ⟨(0 : Int32), by rw [own_ch_0, G1 i.toNatClampNeg, own_ch_23, if_neg (own_ltF (x := f i.toNatClampNeg) rfl (k := (128 : Int32)) (m := 128) rfl (by omega)), if_neg (own_ltF (x := f i.toNatClampNeg) rfl (k := (194 : Int32)) (m := 194) rfl (by omega)), if_pos (own_gtT (x := f i.toNatClampNeg) rfl (k := (223 : Int32)) (m := 223) rfl (by omega)), own_ch_69, if_neg (own_ltF (x := f i.toNatClampNeg) rfl (k := (224 : Int32)) (m := 224) rfl (by omega)), if_neg (own_gtF (x := f i.toNatClampNeg) rfl (k := (239 : Int32)) (m := 239) rfl (by omega)), if_neg (own_eqF (x := f i.toNatClampNeg) rfl (k := (224 : Int32)) (m := 224) rfl (by omega)), if_neg (own_eqF (x := f i.toNatClampNeg) rfl (k := (237 : Int32)) (m := 237) rfl (by omega)), own_ch_187_2_128_191, if_pos (own_gtT hL (k := (2 : Int32)) (m := 2) rfl (by omega)), G1 (i + (1 : Int32)).toNatClampNeg, own_ch_210_2_128_191, if_neg (own_ltF (x := f (i + (1 : Int32)).toNatClampNeg) rfl (k := (128 : Int32)) (m := 128) rfl (by omega)), if_pos (own_gtT (x := f (i + (1 : Int32)).toNatClampNeg) rfl (k := (191 : Int32)) (m := 191) rfl (by omega))], by rw [own_cl_0, own_cl_4, if_neg (own_ltF (x := f i.toNatClampNeg) rfl (k := (128 : Int32)) (m := 128) rfl (by omega)), if_neg (fun q => by have := (F4 i.toNatClampNeg).mp q; omega), if_pos ((F5 i.toNatClampNeg).mpr ⟨by omega, by omega⟩), own_cl_84_3, if_neg (own_ltF hL (k := (3 : Int32)) (m := 3) rfl (by omega)), if_neg (fun q => by have := (F3 (i + (1 : Int32)).toNatClampNeg).mp q; omega)], Or.inl rfl⟩
            · by_cases hh27 : C < 238
              · by_cases hh28 : L < 3
                · exact ⟨(0 : Int32), by rw [own_ch_0, G1 i.toNatClampNeg, own_ch_23, if_neg (own_ltF (x := f i.toNatClampNeg) rfl (k := (128 : Int32)) (m := 128) rfl (by omega)), if_neg (own_ltF (x := f i.toNatClampNeg) rfl (k := (194 : Int32)) (m := 194) rfl (by omega)), if_pos (own_gtT (x := f i.toNatClampNeg) rfl (k := (223 : Int32)) (m := 223) rfl (by omega)), own_ch_69, if_neg (own_ltF (x := f i.toNatClampNeg) rfl (k := (224 : Int32)) (m := 224) rfl (by omega)), if_neg (own_gtF (x := f i.toNatClampNeg) rfl (k := (239 : Int32)) (m := 239) rfl (by omega)), if_neg (own_eqF (x := f i.toNatClampNeg) rfl (k := (224 : Int32)) (m := 224) rfl (by omega)), if_pos (own_eqT (x := f i.toNatClampNeg) rfl (k := (237 : Int32)) (m := 237) rfl (by omega)), own_ch_187_2_128_159, if_neg (own_gtF hL (k := (2 : Int32)) (m := 2) rfl (by omega))], by rw [own_cl_0, own_cl_4, if_neg (own_ltF (x := f i.toNatClampNeg) rfl (k := (128 : Int32)) (m := 128) rfl (by omega)), if_neg (fun q => by have := (F4 i.toNatClampNeg).mp q; omega), if_pos ((F5 i.toNatClampNeg).mpr ⟨by omega, by omega⟩), own_cl_84_3, if_pos (own_ltT hL (k := (3 : Int32)) (m := 3) rfl (by omega))], Or.inl rfl⟩
                · by_cases hh29 : D < 128
                  · exact ⟨(0 : Int32), by rw [own_ch_0, G1 i.toNatClampNeg, own_ch_23, if_neg (own_ltF (x := f i.toNatClampNeg) rfl (k := (128 : Int32)) (m := 128) rfl (by omega)), if_neg (own_ltF (x := f i.toNatClampNeg) rfl (k := (194 : Int32)) (m := 194) rfl (by omega)), if_pos (own_gtT (x := f i.toNatClampNeg) rfl (k := (223 : Int32)) (m := 223) rfl (by omega)), own_ch_69, if_neg (own_ltF (x := f i.toNatClampNeg) rfl (k := (224 : Int32)) (m := 224) rfl (by omega)), if_neg (own_gtF (x := f i.toNatClampNeg) rfl (k := (239 : Int32)) (m := 239) rfl (by omega)), if_neg (own_eqF (x := f i.toNatClampNeg) rfl (k := (224 : Int32)) (m := 224) rfl (by omega)), if_pos (own_eqT (x := f i.toNatClampNeg) rfl (k := (237 : Int32)) (m := 237) rfl (by omega)), own_ch_187_2_128_159, if_pos (own_gtT hL (k := (2 : Int32)) (m := 2) rfl (by omega)), G1 (i + (1 : Int32)).toNatClampNeg, own_ch_210_2_128_159, if_pos (own_ltT (x := f (i + (1 : Int32)).toNatClampNeg) rfl (k := (128 : Int32)) (m := 128) rfl (by omega))], by rw [own_cl_0, own_cl_4, if_neg (own_ltF (x := f i.toNatClampNeg) rfl (k := (128 : Int32)) (m := 128) rfl (by omega)), if_neg (fun q => by have := (F4 i.toNatClampNeg).mp q; omega), if_pos ((F5 i.toNatClampNeg).mpr ⟨by omega, by omega⟩), own_cl_84_3, if_neg (own_ltF hL (k := (3 : Int32)) (m := 3) rfl (by omega)), if_neg (fun q => by have := (F3 (i + (1 : Int32)).toNatClampNeg).mp q; omega)], Or.inl rfl⟩
                  · by_cases hh30 : D < 160
                    · by_cases hh31 : E < 128
                      · exact ⟨(0 : Int32), by rw [own_ch_0, G1 i.toNatClampNeg, own_ch_23, if_neg (own_ltF (x := f i.toNatClampNeg) rfl (k := (128 : Int32)) (m := 128) rfl (by omega)), if_neg (own_ltF (x := f i.toNatClampNeg) rfl (k := (194 : Int32)) (m := 194) rfl (by omega)), if_pos (own_gtT (x := f i.toNatClampNeg) rfl (k := (223 : Int32)) (m := 223) rfl (by omega)), own_ch_69, if_neg (own_ltF (x := f i.toNatClampNeg) rfl (k := (224 : Int32)) (m := 224) rfl (by omega)), if_neg (own_gtF (x := f i.toNatClampNeg) rfl (k := (239 : Int32)) (m := 239) rfl (by omega)), if_neg (own_eqF (x := f i.toNatClampNeg) rfl (k := (224 : Int32)) (m := 224) rfl (by omega)), if_pos (own_eqT (x := f i.toNatClampNeg) rfl (k := (237 : Int32)) (m := 237) rfl (by omega)), own_ch_187_2_128_159, if_pos (own_gtT hL (k := (2 : Int32)) (m := 2) rfl (by omega)), G1 (i + (1 : Int32)).toNatClampNeg, own_ch_210_2_128_159, if_neg (own_ltF (x := f (i + (1 : Int32)).toNatClampNeg) rfl (k := (128 : Int32)) (m := 128) rfl (by omega)), if_neg (own_gtF (x := f (i + (1 : Int32)).toNatClampNeg) rfl (k := (159 : Int32)) (m := 159) rfl (by omega)), own_ch_226_2, if_neg (fun q => by have := (F2g (i + (2 : Int32)).toNatClampNeg).mp q; omega)], by rw [own_cl_0, own_cl_4, if_neg (own_ltF (x := f i.toNatClampNeg) rfl (k := (128 : Int32)) (m := 128) rfl (by omega)), if_neg (fun q => by have := (F4 i.toNatClampNeg).mp q; omega), if_pos ((F5 i.toNatClampNeg).mpr ⟨by omega, by omega⟩), own_cl_84_3, if_neg (own_ltF hL (k := (3 : Int32)) (m := 3) rfl (by omega)), if_pos ((F3 (i + (1 : Int32)).toNatClampNeg).mpr ⟨by omega, by omega⟩), own_cl_127_3, if_neg (fun q => by have := (F3 (i + (2 : Int32)).toNatClampNeg).mp q; omega)], Or.inl rfl⟩
                      · by_cases hh32 : E < 192
                        · exact ⟨(3 : Int32), by rw [own_ch_0, G1 i.toNatClampNeg, own_ch_23, if_neg (own_ltF (x := f i.toNatClampNeg) rfl (k := (128 : Int32)) (m := 128) rfl (by omega)), if_neg (own_ltF (x := f i.toNatClampNeg) rfl (k := (194 : Int32)) (m := 194) rfl (by omega)), if_pos (own_gtT (x := f i.toNatClampNeg) rfl (k := (223 : Int32)) (m := 223) rfl (by omega)), own_ch_69, if_neg (own_ltF (x := f i.toNatClampNeg) rfl (k := (224 : Int32)) (m := 224) rfl (by omega)), if_neg (own_gtF (x := f i.toNatClampNeg) rfl (k := (239 : Int32)) (m := 239) rfl (by omega)), if_neg (own_eqF (x := f i.toNatClampNeg) rfl (k := (224 : Int32)) (m := 224) rfl (by omega)), if_pos (own_eqT (x := f i.toNatClampNeg) rfl (k := (237 : Int32)) (m := 237) rfl (by omega)), own_ch_187_2_128_159, if_pos (own_gtT hL (k := (2 : Int32)) (m := 2) rfl (by omega)), G1 (i + (1 : Int32)).toNatClampNeg, own_ch_210_2_128_159, if_neg (own_ltF (x := f (i + (1 : Int32)).toNatClampNeg) rfl (k := (128 : Int32)) (m := 128) rfl (by omega)), if_neg (own_gtF (x := f (i + (1 : Int32)).toNatClampNeg) rfl (k := (159 : Int32)) (m := 159) rfl (by omega)), own_ch_226_2, if_pos ((F2g (i + (2 : Int32)).toNatClampNeg).mpr ⟨by omega, by omega⟩)], by rw [own_cl_0, own_cl_4, if_neg (own_ltF (x := f i.toNatClampNeg) rfl (k := (128 : Int32)) (m := 128) rfl (by omega)), if_neg (fun q => by have := (F4 i.toNatClampNeg).mp q; omega), if_pos ((F5 i.toNatClampNeg).mpr ⟨by omega, by omega⟩), own_cl_84_3, if_neg (own_ltF hL (k := (3 : Int32)) (m := 3) rfl (by omega)), if_pos ((F3 (i + (1 : Int32)).toNatClampNeg).mpr ⟨by omega, by omega⟩), own_cl_127_3, if_pos ((F3 (i + (2 : Int32)).toNatClampNeg).mpr ⟨by omega, by omega⟩), own_cl_166_3, own_cl_205_3, if_neg (own_ltF (c3 i.toNatClampNeg (i + (1 : Int32)).toNatClampNeg (i + (2 : Int32)).toNatClampNeg) (k := (2048 : Int32)) (m := 2048) rfl (by omega)), if_neg (own_gtF (c3 i.toNatClampNeg (i + (1 : Int32)).toNatClampNeg (i + (2 : Int32)).toNatClampNeg) (k := (1114111 : Int32)) (m := 1114111) rfl (by omega)), if_pos (own_ltT (c3 i.toNatClampNeg (i + (1 : Int32)).toNatClampNeg (i + (2 : Int32)).toNatClampNeg) (k := (55296 : Int32)) (m := 55296) rfl (by omega))], Or.inr ⟨by decide, by show _ + (3 : Int) ≤ _; omega⟩⟩
                        · exact ⟨(0 : Int32), by rw [own_ch_0, G1 i.toNatClampNeg, own_ch_23, if_neg (own_ltF (x := f i.toNatClampNeg) rfl (k := (128 : Int32)) (m := 128) rfl (by omega)), if_neg (own_ltF (x := f i.toNatClampNeg) rfl (k := (194 : Int32)) (m := 194) rfl (by omega)), if_pos (own_gtT (x := f i.toNatClampNeg) rfl (k := (223 : Int32)) (m := 223) rfl (by omega)), own_ch_69, if_neg (own_ltF (x := f i.toNatClampNeg) rfl (k := (224 : Int32)) (m := 224) rfl (by omega)), if_neg (own_gtF (x := f i.toNatClampNeg) rfl (k := (239 : Int32)) (m := 239) rfl (by omega)), if_neg (own_eqF (x := f i.toNatClampNeg) rfl (k := (224 : Int32)) (m := 224) rfl (by omega)), if_pos (own_eqT (x := f i.toNatClampNeg) rfl (k := (237 : Int32)) (m := 237) rfl (by omega)), own_ch_187_2_128_159, if_pos (own_gtT hL (k := (2 : Int32)) (m := 2) rfl (by omega)), G1 (i + (1 : Int32)).toNatClampNeg, own_ch_210_2_128_159, if_neg (own_ltF (x := f (i + (1 : Int32)).toNatClampNeg) rfl (k := (128 : Int32)) (m := 128) rfl (by omega)), if_neg (own_gtF (x := f (i + (1 : Int32)).toNatClampNeg) rfl (k := (159 : Int32)) (m := 159) rfl (by omega)), own_ch_226_2, if_neg (fun q => by have := (F2g (i + (2 : Int32)).toNatClampNeg).mp q; omega)], by rw [own_cl_0, own_cl_4, if_neg (own_ltF (x := f i.toNatClampNeg) rfl (k := (128 : Int32)) (m := 128) rfl (by omega)), if_neg (fun q => by have := (F4 i.toNatClampNeg).mp q; omega), if_pos ((F5 i.toNatClampNeg).mpr ⟨by omega, by omega⟩), own_cl_84_3, if_neg (own_ltF hL (k := (3 : Int32)) (m := 3) rfl (by omega)), if_pos ((F3 (i + (1 : Int32)).toNatClampNeg).mpr ⟨by omega, by omega⟩), own_cl_127_3, if_neg (fun q => by have := (F3 (i + (2 : Int32)).toNatClampNeg).mp q; omega)], Or.inl rfl⟩
                    · by_cases hh33 : D < 192
                      · by_cases hh34 : E < 128
                        · exact ⟨(0 : Int32), by rw [own_ch_0, G1 i.toNatClampNeg, own_ch_23, if_neg (own_ltF (x := f i.toNatClampNeg) rfl (k := (128 : Int32)) (m := 128) rfl (by omega)), if_neg (own_ltF (x := f i.toNatClampNeg) rfl (k := (194 : Int32)) (m := 194) rfl (by omega)), if_pos (own_gtT (x := f i.toNatClampNeg) rfl (k := (223 : Int32)) (m := 223) rfl (by omega)), own_ch_69, if_neg (own_ltF (x := f i.toNatClampNeg) rfl (k := (224 : Int32)) (m := 224) rfl (by omega)), if_neg (own_gtF (x := f i.toNatClampNeg) rfl (k := (239 : Int32)) (m := 239) rfl (by omega)), if_neg (own_eqF (x := f i.toNatClampNeg) rfl (k := (224 : Int32)) (m := 224) rfl (by omega)), if_pos (own_eqT (x := f i.toNatClampNeg) rfl (k := (237 : Int32)) (m := 237) rfl (by omega)), own_ch_187_2_128_159, if_pos (own_gtT hL (k := (2 : Int32)) (m := 2) rfl (by omega)), G1 (i + (1 : Int32)).toNatClampNeg, own_ch_210_2_128_159, if_neg (own_ltF (x := f (i + (1 : Int32)).toNatClampNeg) rfl (k := (128 : Int32)) (m := 128) rfl (by omega)), if_pos (own_gtT (x := f (i + (1 : Int32)).toNatClampNeg) rfl (k := (159 : Int32)) (m := 159) rfl (by omega))], by rw [own_cl_0, own_cl_4, if_neg (own_ltF (x := f i.toNatClampNeg) rfl (k := (128 : Int32)) (m := 128) rfl (by omega)), if_neg (fun q => by have := (F4 i.toNatClampNeg).mp q; omega), if_pos ((F5 i.toNatClampNeg).mpr ⟨by omega, by omega⟩), own_cl_84_3, if_neg (own_ltF hL (k := (3 : Int32)) (m := 3) rfl (by omega)), if_pos ((F3 (i + (1 : Int32)).toNatClampNeg).mpr ⟨by omega, by omega⟩), own_cl_127_3, if_neg (fun q => by have := (F3 (i + (2 : Int32)).toNatClampNeg).mp q; omega)], Or.inl rfl⟩
                        · by_cases hh35 : E < 192
                          · exact ⟨(0 : Int32), by rw [own_ch_0, G1 i.toNatClampNeg, own_ch_23, if_neg (own_ltF (x := f i.toNatClampNeg) rfl (k := (128 : Int32)) (m := 128) rfl (by omega)), if_neg (own_ltF (x := f i.toNatClampNeg) rfl (k := (194 : Int32)) (m := 194) rfl (by omega)), if_pos (own_gtT (x := f i.toNatClampNeg) rfl (k := (223 : Int32)) (m := 223) rfl (by omega)), own_ch_69, if_neg (own_ltF (x := f i.toNatClampNeg) rfl (k := (224 : Int32)) (m := 224) rfl (by omega)), if_neg (own_gtF (x := f i.toNatClampNeg) rfl (k := (239 : Int32)) (m := 239) rfl (by omega)), if_neg (own_eqF (x := f i.toNatClampNeg) rfl (k := (224 : Int32)) (m := 224) rfl (by omega)), if_pos (own_eqT (x := f i.toNatClampNeg) rfl (k := (237 : Int32)) (m := 237) rfl (by omega)), own_ch_187_2_128_159, if_pos (own_gtT hL (k := (2 : Int32)) (m := 2) rfl (by omega)), G1 (i + (1 : Int32)).toNatClampNeg, own_ch_210_2_128_159, if_neg (own_ltF (x := f (i + (1 : Int32)).toNatClampNeg) rfl (k := (128 : Int32)) (m := 128) rfl (by omega)), if_pos (own_gtT (x := f (i + (1 : Int32)).toNatClampNeg) rfl (k := (159 : Int32)) (m := 159) rfl (by omega))], by rw [own_cl_0, own_cl_4, if_neg (own_ltF (x := f i.toNatClampNeg) rfl (k := (128 : Int32)) (m := 128) rfl (by omega)), if_neg (fun q => by have := (F4 i.toNatClampNeg).mp q; omega), if_pos ((F5 i.toNatClampNeg).mpr ⟨by omega, by omega⟩), own_cl_84_3, if_neg (own_ltF hL (k := (3 : Int32)) (m := 3) rfl (by omega)), if_pos ((F3 (i + (1 : Int32)).toNatClampNeg).mpr ⟨by omega, by omega⟩), own_cl_127_3, if_pos ((F3 (i + (2 : Int32)).toNatClampNeg).mpr ⟨by omega, by omega⟩), own_cl_166_3, own_cl_205_3, if_neg (own_ltF (c3 i.toNatClampNeg (i + (1 : Int32)).toNatClampNeg (i + (2 : Int32)).toNatClampNeg) (k := (2048 : Int32)) (m := 2048) rfl (by omega)), if_neg (own_gtF (c3 i.toNatClampNeg (i + (1 : Int32)).toNatClampNeg (i + (2 : Int32)).toNatClampNeg) (k := (1114111 : Int32)) (m := 1114111) rfl (by omega)), if_neg (own_ltF (c3 i.toNatClampNeg (i + (1 : Int32)).toNatClampNeg (i + (2 : Int32)).toNatClampNeg) (k := (55296 : Int32)) (m := 55296) rfl (by omega)), if_neg (own_gtF (c3 i.toNatClampNeg (i + (1 : Int32)).toNatClampNeg (i + (2 : Int32)).toNatClampNeg) (k := (57343 : Int32)) (m := 57343) rfl (by omega))], Or.inl rfl⟩
                          · exact ⟨(0 : Int32), by rw [own_ch_0, G1 i.toNatClampNeg, own_ch_23, if_neg (own_ltF (x := f i.toNatClampNeg) rfl (k := (128 : Int32)) (m := 128) rfl (by omega)), if_neg (own_ltF (x := f i.toNatClampNeg) rfl (k := (194 : Int32)) (m := 194) rfl (by omega)), if_pos (own_gtT (x := f i.toNatClampNeg) rfl (k := (223 : Int32)) (m := 223) rfl (by omega)), own_ch_69, if_neg (own_ltF (x := f i.toNatClampNeg) rfl (k := (224 : Int32)) (m := 224) rfl (by omega)), if_neg (own_gtF (x := f i.toNatClampNeg) rfl (k := (239 : Int32)) (m := 239) rfl (by omega)), if_neg (own_eqF (x := f i.toNatClampNeg) rfl (k := (224 : Int32)) (m := 224) rfl (by omega)), if_pos (own_eqT (x := f i.toNatClampNeg) rfl (k := (237 : Int32)) (m := 237) rfl (by omega)), own_ch_187_2_128_159, if_pos (own_gtT hL (k := (2 : Int32)) (m := 2) rfl (by omega)), G1 (i + (1 : Int32)).toNatClampNeg, own_ch_210_2_128_159, if_neg (own_ltF (x := f (i + (1 : Int32)).toNatClampNeg) rfl (k := (128 : Int32)) (m := 128) rfl (by omega)), if_pos (own_gtT (x := f (i + (1 : Int32)).toNatClampNeg) rfl (k := (159 : Int32)) (m := 159) rfl (by omega))], by rw [own_cl_0, own_cl_4, if_neg (own_ltF (x := f i.toNatClampNeg) rfl (k := (128 : Int32)) (m := 128) rfl (by omega)), if_neg (fun q => by have := (F4 i.toNatClampNeg).mp q; omega), if_pos ((F5 i.toNatClampNeg).mpr ⟨by omega, by omega⟩), own_cl_84_3, if_neg (own_ltF hL (k := (3 : Int32)) (m := 3) rfl (by omega)), if_pos ((F3 (i + (1 : Int32)).toNatClampNeg).mpr ⟨by omega, by omega⟩), own_cl_127_3, if_neg (fun q => by have := (F3 (i + (2 : Int32)).toNatClampNeg).mp q; omega)], Or.inl rfl⟩
                      · exact ⟨(0 : Int32), by rw [own_ch_0, G1 i.toNatClampNeg, own_ch_23, if_neg (own_ltF (x := f i.toNatClampNeg) rfl (k := (128 : Int32)) (m := 128) rfl (by omega)), if_neg (own_ltF (x := f i.toNatClampNeg) rfl (k := (194 : Int32)) (m := 194) rfl (by omega)), if_pos (own_gtT (x := f i.toNatClampNeg) rfl (k := (223 : Int32)) (m := 223) rfl (by omega)), own_ch_69, if_neg (own_ltF (x := f i.toNatClampNeg) rfl (k := (224 : Int32)) (m := 224) rfl (by omega)), if_neg (own_gtF (x := f i.toNatClampNeg) rfl (k := (239 : Int32)) (m := 239) rfl (by omega)), if_neg (own_eqF (x := f i.toNatClampNeg) rfl (k := (224 : Int32)) (m := 224) rfl (by omega)), if_pos (own_eqT (x := f i.toNatClampNeg) rfl (k := (237 : Int32)) (m := 237) rfl (by omega)), own_ch_187_2_128_159, if_pos (own_gtT hL (k := (2 : Int32)) (m := 2) rfl (by omega)), G1 (i + (1 : Int32)).toNatClampNeg, own_ch_210_2_128_159, if_neg (own_ltF (x := f (i + (1 : Int32)).toNatClampNeg) rfl (k := (128 : Int32)) (m := 128) rfl (by omega)), if_pos (own_gtT (x := f (i + (1 : Int32)).toNatClampNeg) rfl (k := (159 : Int32)) (m := 159) rfl (by omega))], by rw [own_cl_0, own_cl_4, if_neg (own_ltF (x := f i.toNatClampNeg) rfl (k := (128 : Int32)) (m := 128) rfl (by omega)), if_neg (fun q => by have := (F4 i.toNatClampNeg).mp q; omega), if_pos ((F5 i.toNatClampNeg).mpr ⟨by omega, by omega⟩), own_cl_84_3, if_neg (own_ltF hL (k := (3 : Int32)) (m := 3) rfl (by omega)), if_neg (fun q => by have := (F3 (i + (1 : Int32)).toNatClampNeg).mp q; omega)], Or.inl rfl⟩
              · by_cases hh36 : L < 3
                · exact ⟨(0 : Int32), by rw [own_ch_0, G1 i.toNatClampNeg, own_ch_23, if_neg (own_ltF (x := f i.toNatClampNeg) rfl (k := (128 : Int32)) (m := 128) rfl (by omega)), if_neg (own_ltF (x := f i.toNatClampNeg) rfl (k := (194 : Int32)) (m := 194) rfl (by omega)), if_pos (own_gtT (x := f i.toNatClampNeg) rfl (k := (223 : Int32)) (m := 223) rfl (by omega)), own_ch_69, if_neg (own_ltF (x := f i.toNatClampNeg) rfl (k := (224 : Int32)) (m := 224) rfl (by omega)), if_neg (own_gtF (x := f i.toNatClampNeg) rfl (k := (239 : Int32)) (m := 239) rfl (by omega)), if_neg (own_eqF (x := f i.toNatClampNeg) rfl (k := (224 : Int32)) (m := 224) rfl (by omega)), if_neg (own_eqF (x := f i.toNatClampNeg) rfl (k := (237 : Int32)) (m := 237) rfl (by omega)), own_ch_187_2_128_191, if_neg (own_gtF hL (k := (2 : Int32)) (m := 2) rfl (by omega))], by rw [own_cl_0, own_cl_4, if_neg (own_ltF (x := f i.toNatClampNeg) rfl (k := (128 : Int32)) (m := 128) rfl (by omega)), if_neg (fun q => by have := (F4 i.toNatClampNeg).mp q; omega), if_pos ((F5 i.toNatClampNeg).mpr ⟨by omega, by omega⟩), own_cl_84_3, if_pos (own_ltT hL (k := (3 : Int32)) (m := 3) rfl (by omega))], Or.inl rfl⟩
                · by_cases hh37 : D < 128
                  · exact ⟨(0 : Int32), by rw [own_ch_0, G1 i.toNatClampNeg, own_ch_23, if_neg (own_ltF (x := f i.toNatClampNeg) rfl (k := (128 : Int32)) (m := 128) rfl (by omega)), if_neg (own_ltF (x := f i.toNatClampNeg) rfl (k := (194 : Int32)) (m := 194) rfl (by omega)), if_pos (own_gtT (x := f i.toNatClampNeg) rfl (k := (223 : Int32)) (m := 223) rfl (by omega)), own_ch_69, if_neg (own_ltF (x := f i.toNatClampNeg) rfl (k := (224 : Int32)) (m := 224) rfl (by omega)), if_neg (own_gtF (x := f i.toNatClampNeg) rfl (k := (239 : Int32)) (m := 239) rfl (by omega)), if_neg (own_eqF (x := f i.toNatClampNeg) rfl (k := (224 : Int32)) (m := 224) rfl (by omega)), if_neg (own_eqF (x := f i.toNatClampNeg) rfl (k := (237 : Int32)) (m := 237) rfl (by omega)), own_ch_187_2_128_191, if_pos (own_gtT hL (k := (2 : Int32)) (m := 2) rfl (by omega)), G1 (i + (1 : Int32)).toNatClampNeg, own_ch_210_2_128_191, if_pos (own_ltT (x := f (i + (1 : Int32)).toNatClampNeg) rfl (k := (128 : Int32)) (m := 128) rfl (by omega))], by rw [own_cl_0, own_cl_4, if_neg (own_ltF (x := f i.toNatClampNeg) rfl (k := (128 : Int32)) (m := 128) rfl (by omega)), if_neg (fun q => by have := (F4 i.toNatClampNeg).mp q; omega), if_pos ((F5 i.toNatClampNeg).mpr ⟨by omega, by omega⟩), own_cl_84_3, if_neg (own_ltF hL (k := (3 : Int32)) (m := 3) rfl (by omega)), if_neg (fun q => by have := (F3 (i + (1 : Int32)).toNatClampNeg).mp q; omega)], Or.inl rfl⟩
                  · by_cases hh38 : D < 192
                    · by_cases hh39 : E < 128
                      · exact ⟨(0 : Int32), by rw [own_ch_0, G1 i.toNatClampNeg, own_ch_23, if_neg (own_ltF (x := f i.toNatClampNeg) rfl (k := (128 : Int32)) (m := 128) rfl (by omega)), if_neg (own_ltF (x := f i.toNatClampNeg) rfl (k := (194 : Int32)) (m := 194) rfl (by omega)), if_pos (own_gtT (x := f i.toNatClampNeg) rfl (k := (223 : Int32)) (m := 223) rfl (by omega)), own_ch_69, if_neg (own_ltF (x := f i.toNatClampNeg) rfl (k := (224 : Int32)) (m := 224) rfl (by omega)), if_neg (own_gtF (x := f i.toNatClampNeg) rfl (k := (239 : Int32)) (m := 239) rfl (by omega)), if_neg (own_eqF (x := f i.toNatClampNeg) rfl (k := (224 : Int32)) (m := 224) rfl (by omega)), if_neg (own_eqF (x := f i.toNatClampNeg) rfl (k := (237 : Int32)) (m := 237) rfl (by omega)), own_ch_187_2_128_191, if_pos (own_gtT hL (k := (2 : Int32)) (m := 2) rfl (by omega)), G1 (i + (1 : Int32)).toNatClampNeg, own_ch_210_2_128_191, if_neg (own_ltF (x := f (i + (1 : Int32)).toNatClampNeg) rfl (k := (128 : Int32)) (m := 128) rfl (by omega)), if_neg (own_gtF (x := f (i + (1 : Int32)).toNatClampNeg) rfl (k := (191 : Int32)) (m := 191) rfl (by omega)), own_ch_226_2, if_neg (fun q => by have := (F2g (i + (2 : Int32)).toNatClampNeg).mp q; omega)], by rw [own_cl_0, own_cl_4, if_neg (own_ltF (x := f i.toNatClampNeg) rfl (k := (128 : Int32)) (m := 128) rfl (by omega)), if_neg (fun q => by have := (F4 i.toNatClampNeg).mp q; omega), if_pos ((F5 i.toNatClampNeg).mpr ⟨by omega, by omega⟩), own_cl_84_3, if_neg (own_ltF hL (k := (3 : Int32)) (m := 3) rfl (by omega)), if_pos ((F3 (i + (1 : Int32)).toNatClampNeg).mpr ⟨by omega, by omega⟩), own_cl_127_3, if_neg (fun q => by have := (F3 (i + (2 : Int32)).toNatClampNeg).mp q; omega)], Or.inl rfl⟩
                      · by_cases hh40 : E < 192
                        · exact ⟨(3 : Int32), by rw [own_ch_0, G1 i.toNatClampNeg, own_ch_23, if_neg (own_ltF (x := f i.toNatClampNeg) rfl (k := (128 : Int32)) (m := 128) rfl (by omega)), if_neg (own_ltF (x := f i.toNatClampNeg) rfl (k := (194 : Int32)) (m := 194) rfl (by omega)), if_pos (own_gtT (x := f i.toNatClampNeg) rfl (k := (223 : Int32)) (m := 223) rfl (by omega)), own_ch_69, if_neg (own_ltF (x := f i.toNatClampNeg) rfl (k := (224 : Int32)) (m := 224) rfl (by omega)), if_neg (own_gtF (x := f i.toNatClampNeg) rfl (k := (239 : Int32)) (m := 239) rfl (by omega)), if_neg (own_eqF (x := f i.toNatClampNeg) rfl (k := (224 : Int32)) (m := 224) rfl (by omega)), if_neg (own_eqF (x := f i.toNatClampNeg) rfl (k := (237 : Int32)) (m := 237) rfl (by omega)), own_ch_187_2_128_191, if_pos (own_gtT hL (k := (2 : Int32)) (m := 2) rfl (by omega)), G1 (i + (1 : Int32)).toNatClampNeg, own_ch_210_2_128_191, if_neg (own_ltF (x := f (i + (1 : Int32)).toNatClampNeg) rfl (k := (128 : Int32)) (m := 128) rfl (by omega)), if_neg (own_gtF (x := f (i + (1 : Int32)).toNatClampNeg) rfl (k := (191 : Int32)) (m := 191) rfl (by omega)), own_ch_226_2, if_pos ((F2g (i + (2 : Int32)).toNatClampNeg).mpr ⟨by omega, by omega⟩)], by rw [own_cl_0, own_cl_4, if_neg (own_ltF (x := f i.toNatClampNeg) rfl (k := (128 : Int32)) (m := 128) rfl (by omega)), if_neg (fun q => by have := (F4 i.toNatClampNeg).mp q; omega), if_pos ((F5 i.toNatClampNeg).mpr ⟨by omega, by omega⟩), own_cl_84_3, if_neg (own_ltF hL (k := (3 : Int32)) (m := 3) rfl (by omega)), if_pos ((F3 (i + (1 : Int32)).toNatClampNeg).mpr ⟨by omega, by omega⟩), own_cl_127_3, if_pos ((F3 (i + (2 : Int32)).toNatClampNeg).mpr ⟨by omega, by omega⟩), own_cl_166_3, own_cl_205_3, if_neg (own_ltF (c3 i.toNatClampNeg (i + (1 : Int32)).toNatClampNeg (i + (2 : Int32)).toNatClampNeg) (k := (2048 : Int32)) (m := 2048) rfl (by omega)), if_neg (own_gtF (c3 i.toNatClampNeg (i + (1 : Int32)).toNatClampNeg (i + (2 : Int32)).toNatClampNeg) (k := (1114111 : Int32)) (m := 1114111) rfl (by omega)), if_neg (own_ltF (c3 i.toNatClampNeg (i + (1 : Int32)).toNatClampNeg (i + (2 : Int32)).toNatClampNeg) (k := (55296 : Int32)) (m := 55296) rfl (by omega)), if_pos (own_gtT (c3 i.toNatClampNeg (i + (1 : Int32)).toNatClampNeg (i + (2 : Int32)).toNatClampNeg) (k := (57343 : Int32)) (m := 57343) rfl (by omega))], Or.inr ⟨by decide, by show _ + (3 : Int) ≤ _; omega⟩⟩
                        · exact ⟨(0 : Int32), by rw [own_ch_0, G1 i.toNatClampNeg, own_ch_23, if_neg (own_ltF (x := f i.toNatClampNeg) rfl (k := (128 : Int32)) (m := 128) rfl (by omega)), if_neg (own_ltF (x := f i.toNatClampNeg) rfl (k := (194 : Int32)) (m := 194) rfl (by omega)), if_pos (own_gtT (x := f i.toNatClampNeg) rfl (k := (223 : Int32)) (m := 223) rfl (by omega)), own_ch_69, if_neg (own_ltF (x := f i.toNatClampNeg) rfl (k := (224 : Int32)) (m := 224) rfl (by omega)), if_neg (own_gtF (x := f i.toNatClampNeg) rfl (k := (239 : Int32)) (m := 239) rfl (by omega)), if_neg (own_eqF (x := f i.toNatClampNeg) rfl (k := (224 : Int32)) (m := 224) rfl (by omega)), if_neg (own_eqF (x := f i.toNatClampNeg) rfl (k := (237 : Int32)) (m := 237) rfl (by omega)), own_ch_187_2_128_191, if_pos (own_gtT hL (k := (2 : Int32)) (m := 2) rfl (by omega)), G1 (i + (1 : Int32)).toNatClampNeg, own_ch_210_2_128_191, if_neg (own_ltF (x := f (i + (1 : Int32)).toNatClampNeg) rfl (k := (128 : Int32)) (m := 128) rfl (by omega)), if_neg (own_gtF (x := f (i + (1 : Int32)).toNatClampNeg) rfl (k := (191 : Int32)) (m := 191) rfl (by omega)), own_ch_226_2, if_neg (fun q => by have := (F2g (i + (2 : Int32)).toNatClampNeg).mp q; omega)], by rw [own_cl_0, own_cl_4, if_neg (own_ltF (x := f i.toNatClampNeg) rfl (k := (128 : Int32)) (m := 128) rfl (by omega)), if_neg (fun q => by have := (F4 i.toNatClampNeg).mp q; omega), if_pos ((F5 i.toNatClampNeg).mpr ⟨by omega, by omega⟩), own_cl_84_3, if_neg (own_ltF hL (k := (3 : Int32)) (m := 3) rfl (by omega)), if_pos ((F3 (i + (1 : Int32)).toNatClampNeg).mpr ⟨by omega, by omega⟩), own_cl_127_3, if_neg (fun q => by have := (F3 (i + (2 : Int32)).toNatClampNeg).mp q; omega)], Or.inl rfl⟩
                    · exact ⟨(0 : Int32), by rw [own_ch_0, G1 i.toNatClampNeg, own_ch_23, if_neg (own_ltF (x := f i.toNatClampNeg) rfl (k := (128 : Int32)) (m := 128) rfl (by omega)), if_neg (own_ltF (x := f i.toNatClampNeg) rfl (k := (194 : Int32)) (m := 194) rfl (by omega)), if_pos (own_gtT (x := f i.toNatClampNeg) rfl (k := (223 : Int32)) (m := 223) rfl (by omega)), own_ch_69, if_neg (own_ltF (x := f i.toNatClampNeg) rfl (k := (224 : Int32)) (m := 224) rfl (by omega)), if_neg (own_gtF (x := f i.toNatClampNeg) rfl (k := (239 : Int32)) (m := 239) rfl (by omega)), if_neg (own_eqF (x := f i.toNatClampNeg) rfl (k := (224 : Int32)) (m := 224) rfl (by omega)), if_neg (own_eqF (x := f i.toNatClampNeg) rfl (k := (237 : Int32)) (m := 237) rfl (by omega)), own_ch_187_2_128_191, if_pos (own_gtT hL (k := (2 : Int32)) (m := 2) rfl (by omega)), G1 (i + (1 : Int32)).toNatClampNeg, own_ch_210_2_128_191, if_neg (own_ltF (x := f (i + (1 : Int32)).toNatClampNeg) rfl (k := (128 : Int32)) (m := 128) rfl (by omega)), if_pos (own_gtT (x := f (i + (1 : Int32)).toNatClampNeg) rfl (k := (191 : Int32)) (m := 191) rfl (by omega))], by rw [own_cl_0, own_cl_4, if_neg (own_ltF (x := f i.toNatClampNeg) rfl (k := (128 : Int32)) (m := 128) rfl (by omega)), if_neg (fun q => by have := (F4 i.toNatClampNeg).mp q; omega), if_pos ((F5 i.toNatClampNeg).mpr ⟨by omega, by omega⟩), own_cl_84_3, if_neg (own_ltF hL (k := (3 : Int32)) (m := 3) rfl (by omega)), if_neg (fun q => by have := (F3 (i + (1 : Int32)).toNatClampNeg).mp q; omega)], Or.inl rfl⟩
        · by_cases hh41 : C < 245
          · by_cases hh42 : C < 241
            · by_cases hh43 : L < 4
              · exact ⟨(0 : Int32), by rw [own_ch_0, G1 i.toNatClampNeg, own_ch_23, if_neg (own_ltF (x := f i.toNatClampNeg) rfl (k := (128 : Int32)) (m := 128) rfl (by omega)), if_neg (own_ltF (x := f i.toNatClampNeg) rfl (k := (194 : Int32)) (m := 194) rfl (by omega)), if_pos (own_gtT (x := f i.toNatClampNeg) rfl (k := (223 : Int32)) (m := 223) rfl (by omega)), own_ch_69, if_neg (own_ltF (x := f i.toNatClampNeg) rfl (k := (224 : Int32)) (m := 224) rfl (by omega)), if_pos (own_gtT (x := f i.toNatClampNeg) rfl (k := (239 : Int32)) (m := 239) rfl (by omega)), own_ch_127, if_neg (own_ltF (x := f i.toNatClampNeg) rfl (k := (240 : Int32)) (m := 240) rfl (by omega)), if_neg (own_gtF (x := f i.toNatClampNeg) rfl (k := (244 : Int32)) (m := 244) rfl (by omega)), if_pos (own_eqT (x := f i.toNatClampNeg) rfl (k := (240 : Int32)) (m := 240) rfl (by omega)), if_neg (own_eqF (x := f i.toNatClampNeg) rfl (k := (244 : Int32)) (m := 244) rfl (by omega)), own_ch_187_3_144_191, if_neg (own_gtF hL (k := (3 : Int32)) (m := 3) rfl (by omega))], by rw [own_cl_0, own_cl_4, if_neg (own_ltF (x := f i.toNatClampNeg) rfl (k := (128 : Int32)) (m := 128) rfl (by omega)), if_neg (fun q => by have := (F4 i.toNatClampNeg).mp q; omega), if_neg (fun q => by have := (F5 i.toNatClampNeg).mp q; omega), if_pos ((F6 i.toNatClampNeg).mpr ⟨by omega, by omega⟩), own_cl_84_4, if_pos (own_ltT hL (k := (4 : Int32)) (m := 4) rfl (by omega))], Or.inl rfl⟩
              · by_cases hh44 : D < 144
                · by_cases hh45 : D < 128
                  · exact ⟨(0 : Int32), by rw [own_ch_0, G1 i.toNatClampNeg, own_ch_23, if_neg (own_ltF (x := f i.toNatClampNeg) rfl (k := (128 : Int32)) (m := 128) rfl (by omega)), if_neg (own_ltF (x := f i.toNatClampNeg) rfl (k := (194 : Int32)) (m := 194) rfl (by omega)), if_pos (own_gtT (x := f i.toNatClampNeg) rfl (k := (223 : Int32)) (m := 223) rfl (by omega)), own_ch_69, if_neg (own_ltF (x := f i.toNatClampNeg) rfl (k := (224 : Int32)) (m := 224) rfl (by omega)), if_pos (own_gtT (x := f i.toNatClampNeg) rfl (k := (239 : Int32)) (m := 239) rfl (by omega)), own_ch_127, if_neg (own_ltF (x := f i.toNatClampNeg) rfl (k := (240 : Int32)) (m := 240) rfl (by omega)), if_neg (own_gtF (x := f i.toNatClampNeg) rfl (k := (244 : Int32)) (m := 244) rfl (by omega)), if_pos (own_eqT (x := f i.toNatClampNeg) rfl (k := (240 : Int32)) (m := 240) rfl (by omega)), if_neg (own_eqF (x := f i.toNatClampNeg) rfl (k := (244 : Int32)) (m := 244) rfl (by omega)), own_ch_187_3_144_191, if_pos (own_gtT hL (k := (3 : Int32)) (m := 3) rfl (by omega)), G1 (i + (1 : Int32)).toNatClampNeg, own_ch_210_3_144_191, if_pos (own_ltT (x := f (i + (1 : Int32)).toNatClampNeg) rfl (k := (144 : Int32)) (m := 144) rfl (by omega))], by rw [own_cl_0, own_cl_4, if_neg (own_ltF (x := f i.toNatClampNeg) rfl (k := (128 : Int32)) (m := 128) rfl (by omega)), if_neg (fun q => by have := (F4 i.toNatClampNeg).mp q; omega), if_neg (fun q => by have := (F5 i.toNatClampNeg).mp q; omega), if_pos ((F6 i.toNatClampNeg).mpr ⟨by omega, by omega⟩), own_cl_84_4, if_neg (own_ltF hL (k := (4 : Int32)) (m := 4) rfl (by omega)), if_neg (fun q => by have := (F3 (i + (1 : Int32)).toNatClampNeg).mp q; omega)], Or.inl rfl⟩
                  · by_cases hh46 : E < 128
                    · exact ⟨(0 : Int32), by rw [own_ch_0, G1 i.toNatClampNeg, own_ch_23, if_neg (own_ltF (x := f i.toNatClampNeg) rfl (k := (128 : Int32)) (m := 128) rfl (by omega)), if_neg (own_ltF (x := f i.toNatClampNeg) rfl (k := (194 : Int32)) (m := 194) rfl (by omega)), if_pos (own_gtT (x := f i.toNatClampNeg) rfl (k := (223 : Int32)) (m := 223) rfl (by omega)), own_ch_69, if_neg (own_ltF (x := f i.toNatClampNeg) rfl (k := (224 : Int32)) (m := 224) rfl (by omega)), if_pos (own_gtT (x := f i.toNatClampNeg) rfl (k := (239 : Int32)) (m := 239) rfl (by omega)), own_ch_127, if_neg (own_ltF (x := f i.toNatClampNeg) rfl (k := (240 : Int32)) (m := 240) rfl (by omega)), if_neg (own_gtF (x := f i.toNatClampNeg) rfl (k := (244 : Int32)) (m := 244) rfl (by omega)), if_pos (own_eqT (x := f i.toNatClampNeg) rfl (k := (240 : Int32)) (m := 240) rfl (by omega)), if_neg (own_eqF (x := f i.toNatClampNeg) rfl (k := (244 : Int32)) (m := 244) rfl (by omega)), own_ch_187_3_144_191, if_pos (own_gtT hL (k := (3 : Int32)) (m := 3) rfl (by omega)), G1 (i + (1 : Int32)).toNatClampNeg, own_ch_210_3_144_191, if_pos (own_ltT (x := f (i + (1 : Int32)).toNatClampNeg) rfl (k := (144 : Int32)) (m := 144) rfl (by omega))], by rw [own_cl_0, own_cl_4, if_neg (own_ltF (x := f i.toNatClampNeg) rfl (k := (128 : Int32)) (m := 128) rfl (by omega)), if_neg (fun q => by have := (F4 i.toNatClampNeg).mp q; omega), if_neg (fun q => by have := (F5 i.toNatClampNeg).mp q; omega), if_pos ((F6 i.toNatClampNeg).mpr ⟨by omega, by omega⟩), own_cl_84_4, if_neg (own_ltF hL (k := (4 : Int32)) (m := 4) rfl (by omega)), if_pos ((F3 (i + (1 : Int32)).toNatClampNeg).mpr ⟨by omega, by omega⟩), own_cl_127_4, if_neg (fun q => by have := (F3 (i + (2 : Int32)).toNatClampNeg).mp q; omega)], Or.inl rfl⟩
                    · by_cases hh47 : E < 192
                      · by_cases hh48 : G < 128
                        · exact ⟨(0 : Int32), by rw [own_ch_0, G1 i.toNatClampNeg, own_ch_23, if_neg (own_ltF (x := f i.toNatClampNeg) rfl (k := (128 : Int32)) (m := 128) rfl (by omega)), if_neg (own_ltF (x := f i.toNatClampNeg) rfl (k := (194 : Int32)) (m := 194) rfl (by omega)), if_pos (own_gtT (x := f i.toNatClampNeg) rfl (k := (223 : Int32)) (m := 223) rfl (by omega)), own_ch_69, if_neg (own_ltF (x := f i.toNatClampNeg) rfl (k := (224 : Int32)) (m := 224) rfl (by omega)), if_pos (own_gtT (x := f i.toNatClampNeg) rfl (k := (239 : Int32)) (m := 239) rfl (by omega)), own_ch_127, if_neg (own_ltF (x := f i.toNatClampNeg) rfl (k := (240 : Int32)) (m := 240) rfl (by omega)), if_neg (own_gtF (x := f i.toNatClampNeg) rfl (k := (244 : Int32)) (m := 244) rfl (by omega)), if_pos (own_eqT (x := f i.toNatClampNeg) rfl (k := (240 : Int32)) (m := 240) rfl (by omega)), if_neg (own_eqF (x := f i.toNatClampNeg) rfl (k := (244 : Int32)) (m := 244) rfl (by omega)), own_ch_187_3_144_191, if_pos (own_gtT hL (k := (3 : Int32)) (m := 3) rfl (by omega)), G1 (i + (1 : Int32)).toNatClampNeg, own_ch_210_3_144_191, if_pos (own_ltT (x := f (i + (1 : Int32)).toNatClampNeg) rfl (k := (144 : Int32)) (m := 144) rfl (by omega))], by rw [own_cl_0, own_cl_4, if_neg (own_ltF (x := f i.toNatClampNeg) rfl (k := (128 : Int32)) (m := 128) rfl (by omega)), if_neg (fun q => by have := (F4 i.toNatClampNeg).mp q; omega), if_neg (fun q => by have := (F5 i.toNatClampNeg).mp q; omega), if_pos ((F6 i.toNatClampNeg).mpr ⟨by omega, by omega⟩), own_cl_84_4, if_neg (own_ltF hL (k := (4 : Int32)) (m := 4) rfl (by omega)), if_pos ((F3 (i + (1 : Int32)).toNatClampNeg).mpr ⟨by omega, by omega⟩), own_cl_127_4, if_pos ((F3 (i + (2 : Int32)).toNatClampNeg).mpr ⟨by omega, by omega⟩), own_cl_166_4, if_neg (fun q => by have := (F3 (i + (3 : Int32)).toNatClampNeg).mp q; omega)], Or.inl rfl⟩
                        · by_cases hh49 : G < 192
                          · exact ⟨(0 : Int32), by rw [own_ch_0, G1 i.toNatClampNeg, own_ch_23, if_neg (own_ltF (x := f i.toNatClampNeg) rfl (k := (128 : Int32)) (m := 128) rfl (by omega)), if_neg (own_ltF (x := f i.toNatClampNeg) rfl (k := (194 : Int32)) (m := 194) rfl (by omega)), if_pos (own_gtT (x := f i.toNatClampNeg) rfl (k := (223 : Int32)) (m := 223) rfl (by omega)), own_ch_69, if_neg (own_ltF (x := f i.toNatClampNeg) rfl (k := (224 : Int32)) (m := 224) rfl (by omega)), if_pos (own_gtT (x := f i.toNatClampNeg) rfl (k := (239 : Int32)) (m := 239) rfl (by omega)), own_ch_127, if_neg (own_ltF (x := f i.toNatClampNeg) rfl (k := (240 : Int32)) (m := 240) rfl (by omega)), if_neg (own_gtF (x := f i.toNatClampNeg) rfl (k := (244 : Int32)) (m := 244) rfl (by omega)), if_pos (own_eqT (x := f i.toNatClampNeg) rfl (k := (240 : Int32)) (m := 240) rfl (by omega)), if_neg (own_eqF (x := f i.toNatClampNeg) rfl (k := (244 : Int32)) (m := 244) rfl (by omega)), own_ch_187_3_144_191, if_pos (own_gtT hL (k := (3 : Int32)) (m := 3) rfl (by omega)), G1 (i + (1 : Int32)).toNatClampNeg, own_ch_210_3_144_191, if_pos (own_ltT (x := f (i + (1 : Int32)).toNatClampNeg) rfl (k := (144 : Int32)) (m := 144) rfl (by omega))], by rw [own_cl_0, own_cl_4, if_neg (own_ltF (x := f i.toNatClampNeg) rfl (k := (128 : Int32)) (m := 128) rfl (by omega)), if_neg (fun q => by have := (F4 i.toNatClampNeg).mp q; omega), if_neg (fun q => by have := (F5 i.toNatClampNeg).mp q; omega), if_pos ((F6 i.toNatClampNeg).mpr ⟨by omega, by omega⟩), own_cl_84_4, if_neg (own_ltF hL (k := (4 : Int32)) (m := 4) rfl (by omega)), if_pos ((F3 (i + (1 : Int32)).toNatClampNeg).mpr ⟨by omega, by omega⟩), own_cl_127_4, if_pos ((F3 (i + (2 : Int32)).toNatClampNeg).mpr ⟨by omega, by omega⟩), own_cl_166_4, if_pos ((F3 (i + (3 : Int32)).toNatClampNeg).mpr ⟨by omega, by omega⟩), own_cl_205_4, if_pos (own_ltT (c4 i.toNatClampNeg (i + (1 : Int32)).toNatClampNeg (i + (2 : Int32)).toNatClampNeg (i + (3 : Int32)).toNatClampNeg) (k := (65536 : Int32)) (m := 65536) rfl (by omega))], Or.inl rfl⟩
                          · exact ⟨(0 : Int32), by rw [own_ch_0, G1 i.toNatClampNeg, own_ch_23, if_neg (own_ltF (x := f i.toNatClampNeg) rfl (k := (128 : Int32)) (m := 128) rfl (by omega)), if_neg (own_ltF (x := f i.toNatClampNeg) rfl (k := (194 : Int32)) (m := 194) rfl (by omega)), if_pos (own_gtT (x := f i.toNatClampNeg) rfl (k := (223 : Int32)) (m := 223) rfl (by omega)), own_ch_69, if_neg (own_ltF (x := f i.toNatClampNeg) rfl (k := (224 : Int32)) (m := 224) rfl (by omega)), if_pos (own_gtT (x := f i.toNatClampNeg) rfl (k := (239 : Int32)) (m := 239) rfl (by omega)), own_ch_127, if_neg (own_ltF (x := f i.toNatClampNeg) rfl (k := (240 : Int32)) (m := 240) rfl (by omega)), if_neg (own_gtF (x := f i.toNatClampNeg) rfl (k := (244 : Int32)) (m := 244) rfl (by omega)), if_pos (own_eqT (x := f i.toNatClampNeg) rfl (k := (240 : Int32)) (m := 240) rfl (by omega)), if_neg (own_eqF (x := f i.toNatClampNeg) rfl (k := (244 : Int32)) (m := 244) rfl (by omega)), own_ch_187_3_144_191, if_pos (own_gtT hL (k := (3 : Int32)) (m := 3) rfl (by omega)), G1 (i + (1 : Int32)).toNatClampNeg, own_ch_210_3_144_191, if_pos (own_ltT (x := f (i + (1 : Int32)).toNatClampNeg) rfl (k := (144 : Int32)) (m := 144) rfl (by omega))], by rw [own_cl_0, own_cl_4, if_neg (own_ltF (x := f i.toNatClampNeg) rfl (k := (128 : Int32)) (m := 128) rfl (by omega)), if_neg (fun q => by have := (F4 i.toNatClampNeg).mp q; omega), if_neg (fun q => by have := (F5 i.toNatClampNeg).mp q; omega), if_pos ((F6 i.toNatClampNeg).mpr ⟨by omega, by omega⟩), own_cl_84_4, if_neg (own_ltF hL (k := (4 : Int32)) (m := 4) rfl (by omega)), if_pos ((F3 (i + (1 : Int32)).toNatClampNeg).mpr ⟨by omega, by omega⟩), own_cl_127_4, if_pos ((F3 (i + (2 : Int32)).toNatClampNeg).mpr ⟨by omega, by omega⟩), own_cl_166_4, if_neg (fun q => by have := (F3 (i + (3 : Int32)).toNatClampNeg).mp q; omega)], Or.inl rfl⟩
                      · exact ⟨(0 : Int32), by rw [own_ch_0, G1 i.toNatClampNeg, own_ch_23, if_neg (own_ltF (x := f i.toNatClampNeg) rfl (k := (128 : Int32)) (m := 128) rfl (by omega)), if_neg (own_ltF (x := f i.toNatClampNeg) rfl (k := (194 : Int32)) (m := 194) rfl (by omega)), if_pos (own_gtT (x := f i.toNatClampNeg) rfl (k := (223 : Int32)) (m := 223) rfl (by omega)), own_ch_69, if_neg (own_ltF (x := f i.toNatClampNeg) rfl (k := (224 : Int32)) (m := 224) rfl (by omega)), if_pos (own_gtT (x := f i.toNatClampNeg) rfl (k := (239 : Int32)) (m := 239) rfl (by omega)), own_ch_127, if_neg (own_ltF (x := f i.toNatClampNeg) rfl (k := (240 : Int32)) (m := 240) rfl (by omega)), if_neg (own_gtF (x := f i.toNatClampNeg) rfl (k := (244 : Int32)) (m := 244) rfl (by omega)), if_pos (own_eqT (x := f i.toNatClampNeg) rfl (k := (240 : Int32)) (m := 240) rfl (by omega)), if_neg (own_eqF (x := f i.toNatClampNeg) rfl (k := (244 : Int32)) (m := 244) rfl (by omega)), own_ch_187_3_144_191, if_pos (own_gtT hL (k := (3 : Int32)) (m := 3) rfl (by omega)), G1 (i + (1 : Int32)).toNatClampNeg, own_ch_210_3_144_191, if_pos (own_ltT (x := f (i + (1 : Int32)).toNatClampNeg) rfl (k := (144 : Int32)) (m := 144) rfl (by omega))], by rw [own_cl_0, own_cl_4, if_neg (own_ltF (x := f i.toNatClampNeg) rfl (k := (128 : Int32)) (m := 128) rfl (by omega)), if_neg (fun q => by have := (F4 i.toNatClampNeg).mp q; omega), if_neg (fun q => by have := (F5 i.toNatClampNeg).mp q; omega), if_pos ((F6 i.toNatClampNeg).mpr ⟨by omega, by omega⟩), own_cl_84_4, if_neg (own_ltF hL (k := (4 : Int32)) (m := 4) rfl (by omega)), if_pos ((F3 (i + (1 : Int32)).toNatClampNeg).mpr ⟨by omega, by omega⟩), own_cl_127_4, if_neg (fun q => by have := (F3 (i + (2 : Int32)).toNatClampNeg).mp q; omega)], Or.inl rfl⟩
                · by_cases hh50 : D < 192
                  · by_cases hh51 : E < 128
                    · exact ⟨(0 : Int32), by rw [own_ch_0, G1 i.toNatClampNeg, own_ch_23, if_neg (own_ltF (x := f i.toNatClampNeg) rfl (k := (128 : Int32)) (m := 128) rfl (by omega)), if_neg (own_ltF (x := f i.toNatClampNeg) rfl (k := (194 : Int32)) (m := 194) rfl (by omega)), if_pos (own_gtT (x := f i.toNatClampNeg) rfl (k := (223 : Int32)) (m := 223) rfl (by omega)), own_ch_69, if_neg (own_ltF (x := f i.toNatClampNeg) rfl (k := (224 : Int32)) (m := 224) rfl (by omega)), if_pos (own_gtT (x := f i.toNatClampNeg) rfl (k := (239 : Int32)) (m := 239) rfl (by omega)), own_ch_127, if_neg (own_ltF (x := f i.toNatClampNeg) rfl (k := (240 : Int32)) (m := 240) rfl (by omega)), if_neg (own_gtF (x := f i.toNatClampNeg) rfl (k := (244 : Int32)) (m := 244) rfl (by omega)), if_pos (own_eqT (x := f i.toNatClampNeg) rfl (k := (240 : Int32)) (m := 240) rfl (by omega)), if_neg (own_eqF (x := f i.toNatClampNeg) rfl (k := (244 : Int32)) (m := 244) rfl (by omega)), own_ch_187_3_144_191, if_pos (own_gtT hL (k := (3 : Int32)) (m := 3) rfl (by omega)), G1 (i + (1 : Int32)).toNatClampNeg, own_ch_210_3_144_191, if_neg (own_ltF (x := f (i + (1 : Int32)).toNatClampNeg) rfl (k := (144 : Int32)) (m := 144) rfl (by omega)), if_neg (own_gtF (x := f (i + (1 : Int32)).toNatClampNeg) rfl (k := (191 : Int32)) (m := 191) rfl (by omega)), own_ch_226_3, if_neg (fun q => by have := (F2g (i + (2 : Int32)).toNatClampNeg).mp q; omega)], by rw [own_cl_0, own_cl_4, if_neg (own_ltF (x := f i.toNatClampNeg) rfl (k := (128 : Int32)) (m := 128) rfl (by omega)), if_neg (fun q => by have := (F4 i.toNatClampNeg).mp q; omega), if_neg (fun q => by have := (F5 i.toNatClampNeg).mp q; omega), if_pos ((F6 i.toNatClampNeg).mpr ⟨by omega, by omega⟩), own_cl_84_4, if_neg (own_ltF hL (k := (4 : Int32)) (m := 4) rfl (by omega)), if_pos ((F3 (i + (1 : Int32)).toNatClampNeg).mpr ⟨by omega, by omega⟩), own_cl_127_4, if_neg (fun q => by have := (F3 (i + (2 : Int32)).toNatClampNeg).mp q; omega)], Or.inl rfl⟩
                    · by_cases hh52 : E < 192
                      · by_cases hh53 : G < 128
                        · exact ⟨(0 : Int32), by rw [own_ch_0, G1 i.toNatClampNeg, own_ch_23, if_neg (own_ltF (x := f i.toNatClampNeg) rfl (k := (128 : Int32)) (m := 128) rfl (by omega)), if_neg (own_ltF (x := f i.toNatClampNeg) rfl (k := (194 : Int32)) (m := 194) rfl (by omega)), if_pos (own_gtT (x := f i.toNatClampNeg) rfl (k := (223 : Int32)) (m := 223) rfl (by omega)), own_ch_69, if_neg (own_ltF (x := f i.toNatClampNeg) rfl (k := (224 : Int32)) (m := 224) rfl (by omega)), if_pos (own_gtT (x := f i.toNatClampNeg) rfl (k := (239 : Int32)) (m := 239) rfl (by omega)), own_ch_127, if_neg (own_ltF (x := f i.toNatClampNeg) rfl (k := (240 : Int32)) (m := 240) rfl (by omega)), if_neg (own_gtF (x := f i.toNatClampNeg) rfl (k := (244 : Int32)) (m := 244) rfl (by omega)), if_pos (own_eqT (x := f i.toNatClampNeg) rfl (k := (240 : Int32)) (m := 240) rfl (by omega)), if_neg (own_eqF (x := f i.toNatClampNeg) rfl (k := (244 : Int32)) (m := 244) rfl (by omega)), own_ch_187_3_144_191, if_pos (own_gtT hL (k := (3 : Int32)) (m := 3) rfl (by omega)), G1 (i + (1 : Int32)).toNatClampNeg, own_ch_210_3_144_191, if_neg (own_ltF (x := f (i + (1 : Int32)).toNatClampNeg) rfl (k := (144 : Int32)) (m := 144) rfl (by omega)), if_neg (own_gtF (x := f (i + (1 : Int32)).toNatClampNeg) rfl (k := (191 : Int32)) (m := 191) rfl (by omega)), own_ch_226_3, if_pos ((F2g (i + (2 : Int32)).toNatClampNeg).mpr ⟨by omega, by omega⟩), if_neg (fun q => by have := (F2g (i + (3 : Int32)).toNatClampNeg).mp q; omega)], by rw [own_cl_0, own_cl_4, if_neg (own_ltF (x := f i.toNatClampNeg) rfl (k := (128 : Int32)) (m := 128) rfl (by omega)), if_neg (fun q => by have := (F4 i.toNatClampNeg).mp q; omega), if_neg (fun q => by have := (F5 i.toNatClampNeg).mp q; omega), if_pos ((F6 i.toNatClampNeg).mpr ⟨by omega, by omega⟩), own_cl_84_4, if_neg (own_ltF hL (k := (4 : Int32)) (m := 4) rfl (by omega)), if_pos ((F3 (i + (1 : Int32)).toNatClampNeg).mpr ⟨by omega, by omega⟩), own_cl_127_4, if_pos ((F3 (i + (2 : Int32)).toNatClampNeg).mpr ⟨by omega, by omega⟩), own_cl_166_4, if_neg (fun q => by have := (F3 (i + (3 : Int32)).toNatClampNeg).mp q; omega)], Or.inl rfl⟩
                        · by_cases hh54 : G < 192
                          · exact ⟨(4 : Int32), by rw [own_ch_0, G1 i.toNatClampNeg, own_ch_23, if_neg (own_ltF (x := f i.toNatClampNeg) rfl (k := (128 : Int32)) (m := 128) rfl (by omega)), if_neg (own_ltF (x := f i.toNatClampNeg) rfl (k := (194 : Int32)) (m := 194) rfl (by omega)), if_pos (own_gtT (x := f i.toNatClampNeg) rfl (k := (223 : Int32)) (m := 223) rfl (by omega)), own_ch_69, if_neg (own_ltF (x := f i.toNatClampNeg) rfl (k := (224 : Int32)) (m := 224) rfl (by omega)), if_pos (own_gtT (x := f i.toNatClampNeg) rfl (k := (239 : Int32)) (m := 239) rfl (by omega)), own_ch_127, if_neg (own_ltF (x := f i.toNatClampNeg) rfl (k := (240 : Int32)) (m := 240) rfl (by omega)), if_neg (own_gtF (x := f i.toNatClampNeg) rfl (k := (244 : Int32)) (m := 244) rfl (by omega)), if_pos (own_eqT (x := f i.toNatClampNeg) rfl (k := (240 : Int32)) (m := 240) rfl (by omega)), if_neg (own_eqF (x := f i.toNatClampNeg) rfl (k := (244 : Int32)) (m := 244) rfl (by omega)), own_ch_187_3_144_191, if_pos (own_gtT hL (k := (3 : Int32)) (m := 3) rfl (by omega)), G1 (i + (1 : Int32)).toNatClampNeg, own_ch_210_3_144_191, if_neg (own_ltF (x := f (i + (1 : Int32)).toNatClampNeg) rfl (k := (144 : Int32)) (m := 144) rfl (by omega)), if_neg (own_gtF (x := f (i + (1 : Int32)).toNatClampNeg) rfl (k := (191 : Int32)) (m := 191) rfl (by omega)), own_ch_226_3, if_pos ((F2g (i + (2 : Int32)).toNatClampNeg).mpr ⟨by omega, by omega⟩), if_pos ((F2g (i + (3 : Int32)).toNatClampNeg).mpr ⟨by omega, by omega⟩)], by rw [own_cl_0, own_cl_4, if_neg (own_ltF (x := f i.toNatClampNeg) rfl (k := (128 : Int32)) (m := 128) rfl (by omega)), if_neg (fun q => by have := (F4 i.toNatClampNeg).mp q; omega), if_neg (fun q => by have := (F5 i.toNatClampNeg).mp q; omega), if_pos ((F6 i.toNatClampNeg).mpr ⟨by omega, by omega⟩), own_cl_84_4, if_neg (own_ltF hL (k := (4 : Int32)) (m := 4) rfl (by omega)), if_pos ((F3 (i + (1 : Int32)).toNatClampNeg).mpr ⟨by omega, by omega⟩), own_cl_127_4, if_pos ((F3 (i + (2 : Int32)).toNatClampNeg).mpr ⟨by omega, by omega⟩), own_cl_166_4, if_pos ((F3 (i + (3 : Int32)).toNatClampNeg).mpr ⟨by omega, by omega⟩), own_cl_205_4, if_neg (own_ltF (c4 i.toNatClampNeg (i + (1 : Int32)).toNatClampNeg (i + (2 : Int32)).toNatClampNeg (i + (3 : Int32)).toNatClampNeg) (k := (65536 : Int32)) (m := 65536) rfl (by omega)), if_neg (own_gtF (c4 i.toNatClampNeg (i + (1 : Int32)).toNatClampNeg (i + (2 : Int32)).toNatClampNeg (i + (3 : Int32)).toNatClampNeg) (k := (1114111 : Int32)) (m := 1114111) rfl (by omega)), if_neg (own_ltF (c4 i.toNatClampNeg (i + (1 : Int32)).toNatClampNeg (i + (2 : Int32)).toNatClampNeg (i + (3 : Int32)).toNatClampNeg) (k := (55296 : Int32)) (m := 55296) rfl (by omega)), if_pos (own_gtT (c4 i.toNatClampNeg (i + (1 : Int32)).toNatClampNeg (i + (2 : Int32)).toNatClampNeg (i + (3 : Int32)).toNatClampNeg) (k := (57343 : Int32)) (m := 57343) rfl (by omega))], Or.inr ⟨by decide, by show _ + (4 : Int) ≤ _; omega⟩⟩
                          · exact ⟨(0 : Int32), by rw [own_ch_0, G1 i.toNatClampNeg, own_ch_23, if_neg (own_ltF (x := f i.toNatClampNeg) rfl (k := (128 : Int32)) (m := 128) rfl (by omega)), if_neg (own_ltF (x := f i.toNatClampNeg) rfl (k := (194 : Int32)) (m := 194) rfl (by omega)), if_pos (own_gtT (x := f i.toNatClampNeg) rfl (k := (223 : Int32)) (m := 223) rfl (by omega)), own_ch_69, if_neg (own_ltF (x := f i.toNatClampNeg) rfl (k := (224 : Int32)) (m := 224) rfl (by omega)), if_pos (own_gtT (x := f i.toNatClampNeg) rfl (k := (239 : Int32)) (m := 239) rfl (by omega)), own_ch_127, if_neg (own_ltF (x := f i.toNatClampNeg) rfl (k := (240 : Int32)) (m := 240) rfl (by omega)), if_neg (own_gtF (x := f i.toNatClampNeg) rfl (k := (244 : Int32)) (m := 244) rfl (by omega)), if_pos (own_eqT (x := f i.toNatClampNeg) rfl (k := (240 : Int32)) (m := 240) rfl (by omega)), if_neg (own_eqF (x := f i.toNatClampNeg) rfl (k := (244 : Int32)) (m := 244) rfl (by omega)), own_ch_187_3_144_191, if_pos (own_gtT hL (k := (3 : Int32)) (m := 3) rfl (by omega)), G1 (i + (1 : Int32)).toNatClampNeg, own_ch_210_3_144_191, if_neg (own_ltF (x := f (i + (1 : Int32)).toNatClampNeg) rfl (k := (144 : Int32)) (m := 144) rfl (by omega)), if_neg (own_gtF (x := f (i + (1 : Int32)).toNatClampNeg) rfl (k := (191 : Int32)) (m := 191) rfl (by omega)), own_ch_226_3, if_pos ((F2g (i + (2 : Int32)).toNatClampNeg).mpr ⟨by omega, by omega⟩), if_neg (fun q => by have := (F2g (i + (3 : Int32)).toNatClampNeg).mp q; omega)], by rw [own_cl_0, own_cl_4, if_neg (own_ltF (x := f i.toNatClampNeg) rfl (k := (128 : Int32)) (m := 128) rfl (by omega)), if_neg (fun q => by have := (F4 i.toNatClampNeg).mp q; omega), if_neg (fun q => by have := (F5 i.toNatClampNeg).mp q; omega), if_pos ((F6 i.toNatClampNeg).mpr ⟨by omega, by omega⟩), own_cl_84_4, if_neg (own_ltF hL (k := (4 : Int32)) (m := 4) rfl (by omega)), if_pos ((F3 (i + (1 : Int32)).toNatClampNeg).mpr ⟨by omega, by omega⟩), own_cl_127_4, if_pos ((F3 (i + (2 : Int32)).toNatClampNeg).mpr ⟨by omega, by omega⟩), own_cl_166_4, if_neg (fun q => by have := (F3 (i + (3 : Int32)).toNatClampNeg).mp q; omega)], Or.inl rfl⟩
                      · exact ⟨(0 : Int32), by rw [own_ch_0, G1 i.toNatClampNeg, own_ch_23, if_neg (own_ltF (x := f i.toNatClampNeg) rfl (k := (128 : Int32)) (m := 128) rfl (by omega)), if_neg (own_ltF (x := f i.toNatClampNeg) rfl (k := (194 : Int32)) (m := 194) rfl (by omega)), if_pos (own_gtT (x := f i.toNatClampNeg) rfl (k := (223 : Int32)) (m := 223) rfl (by omega)), own_ch_69, if_neg (own_ltF (x := f i.toNatClampNeg) rfl (k := (224 : Int32)) (m := 224) rfl (by omega)), if_pos (own_gtT (x := f i.toNatClampNeg) rfl (k := (239 : Int32)) (m := 239) rfl (by omega)), own_ch_127, if_neg (own_ltF (x := f i.toNatClampNeg) rfl (k := (240 : Int32)) (m := 240) rfl (by omega)), if_neg (own_gtF (x := f i.toNatClampNeg) rfl (k := (244 : Int32)) (m := 244) rfl (by omega)), if_pos (own_eqT (x := f i.toNatClampNeg) rfl (k := (240 : Int32)) (m := 240) rfl (by omega)), if_neg (own_eqF (x := f i.toNatClampNeg) rfl (k := (244 : Int32)) (m := 244) rfl (by omega)), own_ch_187_3_144_191, if_pos (own_gtT hL (k := (3 : Int32)) (m := 3) rfl (by omega)), G1 (i + (1 : Int32)).toNatClampNeg, own_ch_210_3_144_191, if_neg (own_ltF (x := f (i + (1 : Int32)).toNatClampNeg) rfl (k := (144 : Int32)) (m := 144) rfl (by omega)), if_neg (own_gtF (x := f (i + (1 : Int32)).toNatClampNeg) rfl (k := (191 : Int32)) (m := 191) rfl (by omega)), own_ch_226_3, if_neg (fun q => by have := (F2g (i + (2 : Int32)).toNatClampNeg).mp q; omega)], by rw [own_cl_0, own_cl_4, if_neg (own_ltF (x := f i.toNatClampNeg) rfl (k := (128 : Int32)) (m := 128) rfl (by omega)), if_neg (fun q => by have := (F4 i.toNatClampNeg).mp q; omega), if_neg (fun q => by have := (F5 i.toNatClampNeg).mp q; omega), if_pos ((F6 i.toNatClampNeg).mpr ⟨by omega, by omega⟩), own_cl_84_4, if_neg (own_ltF hL (k := (4 : Int32)) (m := 4) rfl (by omega)), if_pos ((F3 (i + (1 : Int32)).toNatClampNeg).mpr ⟨by omega, by omega⟩), own_cl_127_4, if_neg (fun q => by have := (F3 (i + (2 : Int32)).toNatClampNeg).mp q; omega)], Or.inl rfl⟩
                  · exact ⟨(0 : Int32), by rw [own_ch_0, G1 i.toNatClampNeg, own_ch_23, if_neg (own_ltF (x := f i.toNatClampNeg) rfl (k := (128 : Int32)) (m := 128) rfl (by omega)), if_neg (own_ltF (x := f i.toNatClampNeg) rfl (k := (194 : Int32)) (m := 194) rfl (by omega)), if_pos (own_gtT (x := f i.toNatClampNeg) rfl (k := (223 : Int32)) (m := 223) rfl (by omega)), own_ch_69, if_neg (own_ltF (x := f i.toNatClampNeg) rfl (k := (224 : Int32)) (m := 224) rfl (by omega)), if_pos (own_gtT (x := f i.toNatClampNeg) rfl (k := (239 : Int32)) (m := 239) rfl (by omega)), own_ch_127, if_neg (own_ltF (x := f i.toNatClampNeg) rfl (k := (240 : Int32)) (m := 240) rfl (by omega)), if_neg (own_gtF (x := f i.toNatClampNeg) rfl (k := (244 : Int32)) (m := 244) rfl (by omega)), if_pos (own_eqT (x := f i.toNatClampNeg) rfl (k := (240 : Int32)) (m := 240) rfl (by omega)), if_neg (own_eqF (x := f i.toNatClampNeg) rfl (k := (244 : Int32)) (m := 244) rfl (by omega)), own_ch_187_3_144_191, if_pos (own_gtT hL (k := (3 : Int32)) (m := 3) rfl (by omega)), G1 (i + (1 : Int32)).toNatClampNeg, own_ch_210_3_144_191, if_neg (own_ltF (x := f (i + (1 : Int32)).toNatClampNeg) rfl (k := (144 : Int32)) (m := 144) rfl (by omega)), if_pos (own_gtT (x := f (i + (1 : Int32)).toNatClampNeg) rfl (k := (191 : Int32)) (m := 191) rfl (by omega))], by rw [own_cl_0, own_cl_4, if_neg (own_ltF (x := f i.toNatClampNeg) rfl (k := (128 : Int32)) (m := 128) rfl (by omega)), if_neg (fun q => by have := (F4 i.toNatClampNeg).mp q; omega), if_neg (fun q => by have := (F5 i.toNatClampNeg).mp q; omega), if_pos ((F6 i.toNatClampNeg).mpr ⟨by omega, by omega⟩), own_cl_84_4, if_neg (own_ltF hL (k := (4 : Int32)) (m := 4) rfl (by omega)), if_neg (fun q => by have := (F3 (i + (1 : Int32)).toNatClampNeg).mp q; omega)], Or.inl rfl⟩
            · by_cases hh55 : C < 244
              · by_cases hh56 : L < 4
                · exact ⟨(0 : Int32), by rw [own_ch_0, G1 i.toNatClampNeg, own_ch_23, if_neg (own_ltF (x := f i.toNatClampNeg) rfl (k := (128 : Int32)) (m := 128) rfl (by omega)), if_neg (own_ltF (x := f i.toNatClampNeg) rfl (k := (194 : Int32)) (m := 194) rfl (by omega)), if_pos (own_gtT (x := f i.toNatClampNeg) rfl (k := (223 : Int32)) (m := 223) rfl (by omega)), own_ch_69, if_neg (own_ltF (x := f i.toNatClampNeg) rfl (k := (224 : Int32)) (m := 224) rfl (by omega)), if_pos (own_gtT (x := f i.toNatClampNeg) rfl (k := (239 : Int32)) (m := 239) rfl (by omega)), own_ch_127, if_neg (own_ltF (x := f i.toNatClampNeg) rfl (k := (240 : Int32)) (m := 240) rfl (by omega)), if_neg (own_gtF (x := f i.toNatClampNeg) rfl (k := (244 : Int32)) (m := 244) rfl (by omega)), if_neg (own_eqF (x := f i.toNatClampNeg) rfl (k := (240 : Int32)) (m := 240) rfl (by omega)), if_neg (own_eqF (x := f i.toNatClampNeg) rfl (k := (244 : Int32)) (m := 244) rfl (by omega)), own_ch_187_3_128_191, if_neg (own_gtF hL (k := (3 : Int32)) (m := 3) rfl (by omega))], by rw [own_cl_0, own_cl_4, if_neg (own_ltF (x := f i.toNatClampNeg) rfl (k := (128 : Int32)) (m := 128) rfl (by omega)), if_neg (fun q => by have := (F4 i.toNatClampNeg).mp q; omega), if_neg (fun q => by have := (F5 i.toNatClampNeg).mp q; omega), if_pos ((F6 i.toNatClampNeg).mpr ⟨by omega, by omega⟩), own_cl_84_4, if_pos (own_ltT hL (k := (4 : Int32)) (m := 4) rfl (by omega))], Or.inl rfl⟩
                · by_cases hh57 : D < 128
                  · exact ⟨(0 : Int32), by rw [own_ch_0, G1 i.toNatClampNeg, own_ch_23, if_neg (own_ltF (x := f i.toNatClampNeg) rfl (k := (128 : Int32)) (m := 128) rfl (by omega)), if_neg (own_ltF (x := f i.toNatClampNeg) rfl (k := (194 : Int32)) (m := 194) rfl (by omega)), if_pos (own_gtT (x := f i.toNatClampNeg) rfl (k := (223 : Int32)) (m := 223) rfl (by omega)), own_ch_69, if_neg (own_ltF (x := f i.toNatClampNeg) rfl (k := (224 : Int32)) (m := 224) rfl (by omega)), if_pos (own_gtT (x := f i.toNatClampNeg) rfl (k := (239 : Int32)) (m := 239) rfl (by omega)), own_ch_127, if_neg (own_ltF (x := f i.toNatClampNeg) rfl (k := (240 : Int32)) (m := 240) rfl (by omega)), if_neg (own_gtF (x := f i.toNatClampNeg) rfl (k := (244 : Int32)) (m := 244) rfl (by omega)), if_neg (own_eqF (x := f i.toNatClampNeg) rfl (k := (240 : Int32)) (m := 240) rfl (by omega)), if_neg (own_eqF (x := f i.toNatClampNeg) rfl (k := (244 : Int32)) (m := 244) rfl (by omega)), own_ch_187_3_128_191, if_pos (own_gtT hL (k := (3 : Int32)) (m := 3) rfl (by omega)), G1 (i + (1 : Int32)).toNatClampNeg, own_ch_210_3_128_191, if_pos (own_ltT (x := f (i + (1 : Int32)).toNatClampNeg) rfl (k := (128 : Int32)) (m := 128) rfl (by omega))], by rw [own_cl_0, own_cl_4, if_neg (own_ltF (x := f i.toNatClampNeg) rfl (k := (128 : Int32)) (m := 128) rfl (by omega)), if_neg (fun q => by have := (F4 i.toNatClampNeg).mp q; omega), if_neg (fun q => by have := (F5 i.toNatClampNeg).mp q; omega), if_pos ((F6 i.toNatClampNeg).mpr ⟨by omega, by omega⟩), own_cl_84_4, if_neg (own_ltF hL (k := (4 : Int32)) (m := 4) rfl (by omega)), if_neg (fun q => by have := (F3 (i + (1 : Int32)).toNatClampNeg).mp q; omega)], Or.inl rfl⟩
                  · by_cases hh58 : D < 192
                    · by_cases hh59 : E < 128
                      · exact ⟨(0 : Int32), by rw [own_ch_0, G1 i.toNatClampNeg, own_ch_23, if_neg (own_ltF (x := f i.toNatClampNeg) rfl (k := (128 : Int32)) (m := 128) rfl (by omega)), if_neg (own_ltF (x := f i.toNatClampNeg) rfl (k := (194 : Int32)) (m := 194) rfl (by omega)), if_pos (own_gtT (x := f i.toNatClampNeg) rfl (k := (223 : Int32)) (m := 223) rfl (by omega)), own_ch_69, if_neg (own_ltF (x := f i.toNatClampNeg) rfl (k := (224 : Int32)) (m := 224) rfl (by omega)), if_pos (own_gtT (x := f i.toNatClampNeg) rfl (k := (239 : Int32)) (m := 239) rfl (by omega)), own_ch_127, if_neg (own_ltF (x := f i.toNatClampNeg) rfl (k := (240 : Int32)) (m := 240) rfl (by omega)), if_neg (own_gtF (x := f i.toNatClampNeg) rfl (k := (244 : Int32)) (m := 244) rfl (by omega)), if_neg (own_eqF (x := f i.toNatClampNeg) rfl (k := (240 : Int32)) (m := 240) rfl (by omega)), if_neg (own_eqF (x := f i.toNatClampNeg) rfl (k := (244 : Int32)) (m := 244) rfl (by omega)), own_ch_187_3_128_191, if_pos (own_gtT hL (k := (3 : Int32)) (m := 3) rfl (by omega)), G1 (i + (1 : Int32)).toNatClampNeg, own_ch_210_3_128_191, if_neg (own_ltF (x := f (i + (1 : Int32)).toNatClampNeg) rfl (k := (128 : Int32)) (m := 128) rfl (by omega)), if_neg (own_gtF (x := f (i + (1 : Int32)).toNatClampNeg) rfl (k := (191 : Int32)) (m := 191) rfl (by omega)), own_ch_226_3, if_neg (fun q => by have := (F2g (i + (2 : Int32)).toNatClampNeg).mp q; omega)], by rw [own_cl_0, own_cl_4, if_neg (own_ltF (x := f i.toNatClampNeg) rfl (k := (128 : Int32)) (m := 128) rfl (by omega)), if_neg (fun q => by have := (F4 i.toNatClampNeg).mp q; omega), if_neg (fun q => by have := (F5 i.toNatClampNeg).mp q; omega), if_pos ((F6 i.toNatClampNeg).mpr ⟨by omega, by omega⟩), own_cl_84_4, if_neg (own_ltF hL (k := (4 : Int32)) (m := 4) rfl (by omega)), if_pos ((F3 (i + (1 : Int32)).toNatClampNeg).mpr ⟨by omega, by omega⟩), own_cl_127_4, if_neg (fun q => by have := (F3 (i + (2 : Int32)).toNatClampNeg).mp q; omega)], Or.inl rfl⟩
                      · by_cases hh60 : E < 192
                        · by_cases hh61 : G < 128
                          · exact ⟨(0 : Int32), by rw [own_ch_0, G1 i.toNatClampNeg, own_ch_23, if_neg (own_ltF (x := f i.toNatClampNeg) rfl (k := (128 : Int32)) (m := 128) rfl (by omega)), if_neg (own_ltF (x := f i.toNatClampNeg) rfl (k := (194 : Int32)) (m := 194) rfl (by omega)), if_pos (own_gtT (x := f i.toNatClampNeg) rfl (k := (223 : Int32)) (m := 223) rfl (by omega)), own_ch_69, if_neg (own_ltF (x := f i.toNatClampNeg) rfl (k := (224 : Int32)) (m := 224) rfl (by omega)), if_pos (own_gtT (x := f i.toNatClampNeg) rfl (k := (239 : Int32)) (m := 239) rfl (by omega)), own_ch_127, if_neg (own_ltF (x := f i.toNatClampNeg) rfl (k := (240 : Int32)) (m := 240) rfl (by omega)), if_neg (own_gtF (x := f i.toNatClampNeg) rfl (k := (244 : Int32)) (m := 244) rfl (by omega)), if_neg (own_eqF (x := f i.toNatClampNeg) rfl (k := (240 : Int32)) (m := 240) rfl (by omega)), if_neg (own_eqF (x := f i.toNatClampNeg) rfl (k := (244 : Int32)) (m := 244) rfl (by omega)), own_ch_187_3_128_191, if_pos (own_gtT hL (k := (3 : Int32)) (m := 3) rfl (by omega)), G1 (i + (1 : Int32)).toNatClampNeg, own_ch_210_3_128_191, if_neg (own_ltF (x := f (i + (1 : Int32)).toNatClampNeg) rfl (k := (128 : Int32)) (m := 128) rfl (by omega)), if_neg (own_gtF (x := f (i + (1 : Int32)).toNatClampNeg) rfl (k := (191 : Int32)) (m := 191) rfl (by omega)), own_ch_226_3, if_pos ((F2g (i + (2 : Int32)).toNatClampNeg).mpr ⟨by omega, by omega⟩), if_neg (fun q => by have := (F2g (i + (3 : Int32)).toNatClampNeg).mp q; omega)], by rw [own_cl_0, own_cl_4, if_neg (own_ltF (x := f i.toNatClampNeg) rfl (k := (128 : Int32)) (m := 128) rfl (by omega)), if_neg (fun q => by have := (F4 i.toNatClampNeg).mp q; omega), if_neg (fun q => by have := (F5 i.toNatClampNeg).mp q; omega), if_pos ((F6 i.toNatClampNeg).mpr ⟨by omega, by omega⟩), own_cl_84_4, if_neg (own_ltF hL (k := (4 : Int32)) (m := 4) rfl (by omega)), if_pos ((F3 (i + (1 : Int32)).toNatClampNeg).mpr ⟨by omega, by omega⟩), own_cl_127_4, if_pos ((F3 (i + (2 : Int32)).toNatClampNeg).mpr ⟨by omega, by omega⟩), own_cl_166_4, if_neg (fun q => by have := (F3 (i + (3 : Int32)).toNatClampNeg).mp q; omega)], Or.inl rfl⟩
                          · by_cases hh62 : G < 192
                            · exact ⟨(4 : Int32), by rw [own_ch_0, G1 i.toNatClampNeg, own_ch_23, if_neg (own_ltF (x := f i.toNatClampNeg) rfl (k := (128 : Int32)) (m := 128) rfl (by omega)), if_neg (own_ltF (x := f i.toNatClampNeg) rfl (k := (194 : Int32)) (m := 194) rfl (by omega)), if_pos (own_gtT (x := f i.toNatClampNeg) rfl (k := (223 : Int32)) (m := 223) rfl (by omega)), own_ch_69, if_neg (own_ltF (x := f i.toNatClampNeg) rfl (k := (224 : Int32)) (m := 224) rfl (by omega)), if_pos (own_gtT (x := f i.toNatClampNeg) rfl (k := (239 : Int32)) (m := 239) rfl (by omega)), own_ch_127, if_neg (own_ltF (x := f i.toNatClampNeg) rfl (k := (240 : Int32)) (m := 240) rfl (by omega)), if_neg (own_gtF (x := f i.toNatClampNeg) rfl (k := (244 : Int32)) (m := 244) rfl (by omega)), if_neg (own_eqF (x := f i.toNatClampNeg) rfl (k := (240 : Int32)) (m := 240) rfl (by omega)), if_neg (own_eqF (x := f i.toNatClampNeg) rfl (k := (244 : Int32)) (m := 244) rfl (by omega)), own_ch_187_3_128_191, if_pos (own_gtT hL (k := (3 : Int32)) (m := 3) rfl (by omega)), G1 (i + (1 : Int32)).toNatClampNeg, own_ch_210_3_128_191, if_neg (own_ltF (x := f (i + (1 : Int32)).toNatClampNeg) rfl (k := (128 : Int32)) (m := 128) rfl (by omega)), if_neg (own_gtF (x := f (i + (1 : Int32)).toNatClampNeg) rfl (k := (191 : Int32)) (m := 191) rfl (by omega)), own_ch_226_3, if_pos ((F2g (i + (2 : Int32)).toNatClampNeg).mpr ⟨by omega, by omega⟩), if_pos ((F2g (i + (3 : Int32)).toNatClampNeg).mpr ⟨by omega, by omega⟩)], by rw [own_cl_0, own_cl_4, if_neg (own_ltF (x := f i.toNatClampNeg) rfl (k := (128 : Int32)) (m := 128) rfl (by omega)), if_neg (fun q => by have := (F4 i.toNatClampNeg).mp q; omega), if_neg (fun q => by have := (F5 i.toNatClampNeg).mp q; omega), if_pos ((F6 i.toNatClampNeg).mpr ⟨by omega, by omega⟩), own_cl_84_4, if_neg (own_ltF hL (k := (4 : Int32)) (m := 4) rfl (by omega)), if_pos ((F3 (i + (1 : Int32)).toNatClampNeg).mpr ⟨by omega, by omega⟩), own_cl_127_4, if_pos ((F3 (i + (2 : Int32)).toNatClampNeg).mpr ⟨by omega, by omega⟩), own_cl_166_4, if_pos ((F3 (i + (3 : Int32)).toNatClampNeg).mpr ⟨by omega, by omega⟩), own_cl_205_4, if_neg (own_ltF (c4 i.toNatClampNeg (i + (1 : Int32)).toNatClampNeg (i + (2 : Int32)).toNatClampNeg (i + (3 : Int32)).toNatClampNeg) (k := (65536 : Int32)) (m := 65536) rfl (by omega)), if_neg (own_gtF (c4 i.toNatClampNeg (i + (1 : Int32)).toNatClampNeg (i + (2 : Int32)).toNatClampNeg (i + (3 : Int32)).toNatClampNeg) (k := (1114111 : Int32)) (m := 1114111) rfl (by omega)), if_neg (own_ltF (c4 i.toNatClampNeg (i + (1 : Int32)).toNatClampNeg (i + (2 : Int32)).toNatClampNeg (i + (3 : Int32)).toNatClampNeg) (k := (55296 : Int32)) (m := 55296) rfl (by omega)), if_pos (own_gtT (c4 i.toNatClampNeg (i + (1 : Int32)).toNatClampNeg (i + (2 : Int32)).toNatClampNeg (i + (3 : Int32)).toNatClampNeg) (k := (57343 : Int32)) (m := 57343) rfl (by omega))], Or.inr ⟨by decide, by show _ + (4 : Int) ≤ _; omega⟩⟩
                            · exact ⟨(0 : Int32), by rw [own_ch_0, G1 i.toNatClampNeg, own_ch_23, if_neg (own_ltF (x := f i.toNatClampNeg) rfl (k := (128 : Int32)) (m := 128) rfl (by omega)), if_neg (own_ltF (x := f i.toNatClampNeg) rfl (k := (194 : Int32)) (m := 194) rfl (by omega)), if_pos (own_gtT (x := f i.toNatClampNeg) rfl (k := (223 : Int32)) (m := 223) rfl (by omega)), own_ch_69, if_neg (own_ltF (x := f i.toNatClampNeg) rfl (k := (224 : Int32)) (m := 224) rfl (by omega)), if_pos (own_gtT (x := f i.toNatClampNeg) rfl (k := (239 : Int32)) (m := 239) rfl (by omega)), own_ch_127, if_neg (own_ltF (x := f i.toNatClampNeg) rfl (k := (240 : Int32)) (m := 240) rfl (by omega)), if_neg (own_gtF (x := f i.toNatClampNeg) rfl (k := (244 : Int32)) (m := 244) rfl (by omega)), if_neg (own_eqF (x := f i.toNatClampNeg) rfl (k := (240 : Int32)) (m := 240) rfl (by omega)), if_neg (own_eqF (x := f i.toNatClampNeg) rfl (k := (244 : Int32)) (m := 244) rfl (by omega)), own_ch_187_3_128_191, if_pos (own_gtT hL (k := (3 : Int32)) (m := 3) rfl (by omega)), G1 (i + (1 : Int32)).toNatClampNeg, own_ch_210_3_128_191, if_neg (own_ltF (x := f (i + (1 : Int32)).toNatClampNeg) rfl (k := (128 : Int32)) (m := 128) rfl (by omega)), if_neg (own_gtF (x := f (i + (1 : Int32)).toNatClampNeg) rfl (k := (191 : Int32)) (m := 191) rfl (by omega)), own_ch_226_3, if_pos ((F2g (i + (2 : Int32)).toNatClampNeg).mpr ⟨by omega, by omega⟩), if_neg (fun q => by have := (F2g (i + (3 : Int32)).toNatClampNeg).mp q; omega)], by rw [own_cl_0, own_cl_4, if_neg (own_ltF (x := f i.toNatClampNeg) rfl (k := (128 : Int32)) (m := 128) rfl (by omega)), if_neg (fun q => by have := (F4 i.toNatClampNeg).mp q; omega), if_neg (fun q => by have := (F5 i.toNatClampNeg).mp q; omega), if_pos ((F6 i.toNatClampNeg).mpr ⟨by omega, by omega⟩), own_cl_84_4, if_neg (own_ltF hL (k := (4 : Int32)) (m := 4) rfl (by omega)), if_pos ((F3 (i + (1 : Int32)).toNatClampNeg).mpr ⟨by omega, by omega⟩), own_cl_127_4, if_pos ((F3 (i + (2 : Int32)).toNatClampNeg).mpr ⟨by omega, by omega⟩), own_cl_166_4, if_neg (fun q => by have := (F3 (i + (3 : Int32)).toNatClampNeg).mp q; omega)], Or.inl rfl⟩
                        · exact ⟨(0 : Int32), by rw [own_ch_0, G1 i.toNatClampNeg, own_ch_23, if_neg (own_ltF (x := f i.toNatClampNeg) rfl (k := (128 : Int32)) (m := 128) rfl (by omega)), if_neg (own_ltF (x := f i.toNatClampNeg) rfl (k := (194 : Int32)) (m := 194) rfl (by omega)), if_pos (own_gtT (x := f i.toNatClampNeg) rfl (k := (223 : Int32)) (m := 223) rfl (by omega)), own_ch_69, if_neg (own_ltF (x := f i.toNatClampNeg) rfl (k := (224 : Int32)) (m := 224) rfl (by omega)), if_pos (own_gtT (x := f i.toNatClampNeg) rfl (k := (239 : Int32)) (m := 239) rfl (by omega)), own_ch_127, if_neg (own_ltF (x := f i.toNatClampNeg) rfl (k := (240 : Int32)) (m := 240) rfl (by omega)), if_neg (own_gtF (x := f i.toNatClampNeg) rfl (k := (244 : Int32)) (m := 244) rfl (by omega)), if_neg (own_eqF (x := f i.toNatClampNeg) rfl (k := (240 : Int32)) (m := 240) rfl (by omega)), if_neg (own_eqF (x := f i.toNatClampNeg) rfl (k := (244 : Int32)) (m := 244) rfl (by omega)), own_ch_187_3_128_191, if_pos (own_gtT hL (k := (3 : Int32)) (m := 3) rfl (by omega)), G1 (i + (1 : Int32)).toNatClampNeg, own_ch_210_3_128_191, if_neg (own_ltF (x := f (i + (1 : Int32)).toNatClampNeg) rfl (k := (128 : Int32)) (m := 128) rfl (by omega)), if_neg (own_gtF (x := f (i + (1 : Int32)).toNatClampNeg) rfl (k := (191 : Int32)) (m := 191) rfl (by omega)), own_ch_226_3, if_neg (fun q => by have := (F2g (i + (2 : Int32)).toNatClampNeg).mp q; omega)], by rw [own_cl_0, own_cl_4, if_neg (own_ltF (x := f i.toNatClampNeg) rfl (k := (128 : Int32)) (m := 128) rfl (by omega)), if_neg (fun q => by have := (F4 i.toNatClampNeg).mp q; omega), if_neg (fun q => by have := (F5 i.toNatClampNeg).mp q; omega), if_pos ((F6 i.toNatClampNeg).mpr ⟨by omega, by omega⟩), own_cl_84_4, if_neg (own_ltF hL (k := (4 : Int32)) (m := 4) rfl (by omega)), if_pos ((F3 (i + (1 : Int32)).toNatClampNeg).mpr ⟨by omega, by omega⟩), own_cl_127_4, if_neg (fun q => by have := (F3 (i + (2 : Int32)).toNatClampNeg).mp q; omega)], Or.inl rfl⟩
                    · exact ⟨(0 : Int32), by rw [own_ch_0, G1 i.toNatClampNeg, own_ch_23, if_neg (own_ltF (x := f i.toNatClampNeg) rfl (k := (128 : Int32)) (m := 128) rfl (by omega)), if_neg (own_ltF (x := f i.toNatClampNeg) rfl (k := (194 : Int32)) (m := 194) rfl (by omega)), if_pos (own_gtT (x := f i.toNatClampNeg) rfl (k := (223 : Int32)) (m := 223) rfl (by omega)), own_ch_69, if_neg (own_ltF (x := f i.toNatClampNeg) rfl (k := (224 : Int32)) (m := 224) rfl (by omega)), if_pos (own_gtT (x := f i.toNatClampNeg) rfl (k := (239 : Int32)) (m := 239) rfl (by omega)), own_ch_127, if_neg (own_ltF (x := f i.toNatClampNeg) rfl (k := (240 : Int32)) (m := 240) rfl (by omega)), if_neg (own_gtF (x := f i.toNatClampNeg) rfl (k := (244 : Int32)) (m := 244) rfl (by omega)), if_neg (own_eqF (x := f i.toNatClampNeg) rfl (k := (240 : Int32)) (m := 240) rfl (by omega)), if_neg (own_eqF (x := f i.toNatClampNeg) rfl (k := (244 : Int32)) (m := 244) rfl (by omega)), own_ch_187_3_128_191, if_pos (own_gtT hL (k := (3 : Int32)) (m := 3) rfl (by omega)), G1 (i + (1 : Int32)).toNatClampNeg, own_ch_210_3_128_191, if_neg (own_ltF (x := f (i + (1 : Int32)).toNatClampNeg) rfl (k := (128 : Int32)) (m := 128) rfl (by omega)), if_pos (own_gtT (x := f (i + (1 : Int32)).toNatClampNeg) rfl (k := (191 : Int32)) (m := 191) rfl (by omega))], by rw [own_cl_0, own_cl_4, if_neg (own_ltF (x := f i.toNatClampNeg) rfl (k := (128 : Int32)) (m := 128) rfl (by omega)), if_neg (fun q => by have := (F4 i.toNatClampNeg).mp q; omega), if_neg (fun q => by have := (F5 i.toNatClampNeg).mp q; omega), if_pos ((F6 i.toNatClampNeg).mpr ⟨by omega, by omega⟩), own_cl_84_4, if_neg (own_ltF hL (k := (4 : Int32)) (m := 4) rfl (by omega)), if_neg (fun q => by have := (F3 (i + (1 : Int32)).toNatClampNeg).mp q; omega)], Or.inl rfl⟩
              · by_cases hh63 : L < 4
                · exact ⟨(0 : Int32), by rw [own_ch_0, G1 i.toNatClampNeg, own_ch_23, if_neg (own_ltF (x := f i.toNatClampNeg) rfl (k := (128 : Int32)) (m := 128) rfl (by omega)), if_neg (own_ltF (x := f i.toNatClampNeg) rfl (k := (194 : Int32)) (m := 194) rfl (by omega)), if_pos (own_gtT (x := f i.toNatClampNeg) rfl (k := (223 : Int32)) (m := 223) rfl (by omega)), own_ch_69, if_neg (own_ltF (x := f i.toNatClampNeg) rfl (k := (224 : Int32)) (m := 224) rfl (by omega)), if_pos (own_gtT (x := f i.toNatClampNeg) rfl (k := (239 : Int32)) (m := 239) rfl (by omega)), own_ch_127, if_neg (own_ltF (x := f i.toNatClampNeg) rfl (k := (240 : Int32)) (m := 240) rfl (by omega)), if_neg (own_gtF (x := f i.toNatClampNeg) rfl (k := (244 : Int32)) (m := 244) rfl (by omega)), if_neg (own_eqF (x := f i.toNatClampNeg) rfl (k := (240 : Int32)) (m := 240) rfl (by omega)), if_pos (own_eqT (x := f i.toNatClampNeg) rfl (k := (244 : Int32)) (m := 244) rfl (by omega)), own_ch_187_3_128_143, if_neg (own_gtF hL (k := (3 : Int32)) (m := 3) rfl (by omega))], by rw [own_cl_0, own_cl_4, if_neg (own_ltF (x := f i.toNatClampNeg) rfl (k := (128 : Int32)) (m := 128) rfl (by omega)), if_neg (fun q => by have := (F4 i.toNatClampNeg).mp q; omega), if_neg (fun q => by have := (F5 i.toNatClampNeg).mp q; omega), if_pos ((F6 i.toNatClampNeg).mpr ⟨by omega, by omega⟩), own_cl_84_4, if_pos (own_ltT hL (k := (4 : Int32)) (m := 4) rfl (by omega))], Or.inl rfl⟩
                · by_cases hh64 : D < 128
                  · exact ⟨(0 : Int32), by rw [own_ch_0, G1 i.toNatClampNeg, own_ch_23, if_neg (own_ltF (x := f i.toNatClampNeg) rfl (k := (128 : Int32)) (m := 128) rfl (by omega)), if_neg (own_ltF (x := f i.toNatClampNeg) rfl (k := (194 : Int32)) (m := 194) rfl (by omega)), if_pos (own_gtT (x := f i.toNatClampNeg) rfl (k := (223 : Int32)) (m := 223) rfl (by omega)), own_ch_69, if_neg (own_ltF (x := f i.toNatClampNeg) rfl (k := (224 : Int32)) (m := 224) rfl (by omega)), if_pos (own_gtT (x := f i.toNatClampNeg) rfl (k := (239 : Int32)) (m := 239) rfl (by omega)), own_ch_127, if_neg (own_ltF (x := f i.toNatClampNeg) rfl (k := (240 : Int32)) (m := 240) rfl (by omega)), if_neg (own_gtF (x := f i.toNatClampNeg) rfl (k := (244 : Int32)) (m := 244) rfl (by omega)), if_neg (own_eqF (x := f i.toNatClampNeg) rfl (k := (240 : Int32)) (m := 240) rfl (by omega)), if_pos (own_eqT (x := f i.toNatClampNeg) rfl (k := (244 : Int32)) (m := 244) rfl (by omega)), own_ch_187_3_128_143, if_pos (own_gtT hL (k := (3 : Int32)) (m := 3) rfl (by omega)), G1 (i + (1 : Int32)).toNatClampNeg, own_ch_210_3_128_143, if_pos (own_ltT (x := f (i + (1 : Int32)).toNatClampNeg) rfl (k := (128 : Int32)) (m := 128) rfl (by omega))], by rw [own_cl_0, own_cl_4, if_neg (own_ltF (x := f i.toNatClampNeg) rfl (k := (128 : Int32)) (m := 128) rfl (by omega)), if_neg (fun q => by have := (F4 i.toNatClampNeg).mp q; omega), if_neg (fun q => by have := (F5 i.toNatClampNeg).mp q; omega), if_pos ((F6 i.toNatClampNeg).mpr ⟨by omega, by omega⟩), own_cl_84_4, if_neg (own_ltF hL (k := (4 : Int32)) (m := 4) rfl (by omega)), if_neg (fun q => by have := (F3 (i + (1 : Int32)).toNatClampNeg).mp q; omega)], Or.inl rfl⟩
                  · by_cases hh65 : D < 144
                    · by_cases hh66 : E < 128
                      · exact ⟨(0 : Int32), by rw [own_ch_0, G1 i.toNatClampNeg, own_ch_23, if_neg (own_ltF (x := f i.toNatClampNeg) rfl (k := (128 : Int32)) (m := 128) rfl (by omega)), if_neg (own_ltF (x := f i.toNatClampNeg) rfl (k := (194 : Int32)) (m := 194) rfl (by omega)), if_pos (own_gtT (x := f i.toNatClampNeg) rfl (k := (223 : Int32)) (m := 223) rfl (by omega)), own_ch_69, if_neg (own_ltF (x := f i.toNatClampNeg) rfl (k := (224 : Int32)) (m := 224) rfl (by omega)), if_pos (own_gtT (x := f i.toNatClampNeg) rfl (k := (239 : Int32)) (m := 239) rfl (by omega)), own_ch_127, if_neg (own_ltF (x := f i.toNatClampNeg) rfl (k := (240 : Int32)) (m := 240) rfl (by omega)), if_neg (own_gtF (x := f i.toNatClampNeg) rfl (k := (244 : Int32)) (m := 244) rfl (by omega)), if_neg (own_eqF (x := f i.toNatClampNeg) rfl (k := (240 : Int32)) (m := 240) rfl (by omega)), if_pos (own_eqT (x := f i.toNatClampNeg) rfl (k := (244 : Int32)) (m := 244) rfl (by omega)), own_ch_187_3_128_143, if_pos (own_gtT hL (k := (3 : Int32)) (m := 3) rfl (by omega)), G1 (i + (1 : Int32)).toNatClampNeg, own_ch_210_3_128_143, if_neg (own_ltF (x := f (i + (1 : Int32)).toNatClampNeg) rfl (k := (128 : Int32)) (m := 128) rfl (by omega)), if_neg (own_gtF (x := f (i + (1 : Int32)).toNatClampNeg) rfl (k := (143 : Int32)) (m := 143) rfl (by omega)), own_ch_226_3, if_neg (fun q => by have := (F2g (i + (2 : Int32)).toNatClampNeg).mp q; omega)], by rw [own_cl_0, own_cl_4, if_neg (own_ltF (x := f i.toNatClampNeg) rfl (k := (128 : Int32)) (m := 128) rfl (by omega)), if_neg (fun q => by have := (F4 i.toNatClampNeg).mp q; omega), if_neg (fun q => by have := (F5 i.toNatClampNeg).mp q; omega), if_pos ((F6 i.toNatClampNeg).mpr ⟨by omega, by omega⟩), own_cl_84_4, if_neg (own_ltF hL (k := (4 : Int32)) (m := 4) rfl (by omega)), if_pos ((F3 (i + (1 : Int32)).toNatClampNeg).mpr ⟨by omega, by omega⟩), own_cl_127_4, if_neg (fun q => by have := (F3 (i + (2 : Int32)).toNatClampNeg).mp q; omega)], Or.inl rfl⟩
                      · by_cases hh67 : E < 192
                        · by_cases hh68 : G < 128
                          · exact ⟨(0 : Int32), by rw [own_ch_0, G1 i.toNatClampNeg, own_ch_23, if_neg (own_ltF (x := f i.toNatClampNeg) rfl (k := (128 : Int32)) (m := 128) rfl (by omega)), if_neg (own_ltF (x := f i.toNatClampNeg) rfl (k := (194 : Int32)) (m := 194) rfl (by omega)), if_pos (own_gtT (x := f i.toNatClampNeg) rfl (k := (223 : Int32)) (m := 223) rfl (by omega)), own_ch_69, if_neg (own_ltF (x := f i.toNatClampNeg) rfl (k := (224 : Int32)) (m := 224) rfl (by omega)), if_pos (own_gtT (x := f i.toNatClampNeg) rfl (k := (239 : Int32)) (m := 239) rfl (by omega)), own_ch_127, if_neg (own_ltF (x := f i.toNatClampNeg) rfl (k := (240 : Int32)) (m := 240) rfl (by omega)), if_neg (own_gtF (x := f i.toNatClampNeg) rfl (k := (244 : Int32)) (m := 244) rfl (by omega)), if_neg (own_eqF (x := f i.toNatClampNeg) rfl (k := (240 : Int32)) (m := 240) rfl (by omega)), if_pos (own_eqT (x := f i.toNatClampNeg) rfl (k := (244 : Int32)) (m := 244) rfl (by omega)), own_ch_187_3_128_143, if_pos (own_gtT hL (k := (3 : Int32)) (m := 3) rfl (by omega)), G1 (i + (1 : Int32)).toNatClampNeg, own_ch_210_3_128_143, if_neg (own_ltF (x := f (i + (1 : Int32)).toNatClampNeg) rfl (k := (128 : Int32)) (m := 128) rfl (by omega)), if_neg (own_gtF (x := f (i + (1 : Int32)).toNatClampNeg) rfl (k := (143 : Int32)) (m := 143) rfl (by omega)), own_ch_226_3, if_pos ((F2g (i + (2 : Int32)).toNatClampNeg).mpr ⟨by omega, by omega⟩), if_neg (fun q => by have := (F2g (i + (3 : Int32)).toNatClampNeg).mp q; omega)], by rw [own_cl_0, own_cl_4, if_neg (own_ltF (x := f i.toNatClampNeg) rfl (k := (128 : Int32)) (m := 128) rfl (by omega)), if_neg (fun q => by have := (F4 i.toNatClampNeg).mp q; omega), if_neg (fun q => by have := (F5 i.toNatClampNeg).mp q; omega), if_pos ((F6 i.toNatClampNeg).mpr ⟨by omega, by omega⟩), own_cl_84_4, if_neg (own_ltF hL (k := (4 : Int32)) (m := 4) rfl (by omega)), if_pos ((F3 (i + (1 : Int32)).toNatClampNeg).mpr ⟨by omega, by omega⟩), own_cl_127_4, if_pos ((F3 (i + (2 : Int32)).toNatClampNeg).mpr ⟨by omega, by omega⟩), own_cl_166_4, if_neg (fun q => by have := (F3 (i + (3 : Int32)).toNatClampNeg).mp q; omega)], Or.inl rfl⟩
                          · by_cases hh69 : G < 192
                            · exact ⟨(4 : Int32), by rw [own_ch_0, G1 i.toNatClampNeg, own_ch_23, if_neg (own_ltF (x := f i.toNatClampNeg) rfl (k := (128 : Int32)) (m := 128) rfl (by omega)), if_neg (own_ltF (x := f i.toNatClampNeg) rfl (k := (194 : Int32)) (m := 194) rfl (by omega)), if_pos (own_gtT (x := f i.toNatClampNeg) rfl (k := (223 : Int32)) (m := 223) rfl (by omega)), own_ch_69, if_neg (own_ltF (x := f i.toNatClampNeg) rfl (k := (224 : Int32)) (m := 224) rfl (by omega)), if_pos (own_gtT (x := f i.toNatClampNeg) rfl (k := (239 : Int32)) (m := 239) rfl (by omega)), own_ch_127, if_neg (own_ltF (x := f i.toNatClampNeg) rfl (k := (240 : Int32)) (m := 240) rfl (by omega)), if_neg (own_gtF (x := f i.toNatClampNeg) rfl (k := (244 : Int32)) (m := 244) rfl (by omega)), if_neg (own_eqF (x := f i.toNatClampNeg) rfl (k := (240 : Int32)) (m := 240) rfl (by omega)), if_pos (own_eqT (x := f i.toNatClampNeg) rfl (k := (244 : Int32)) (m := 244) rfl (by omega)), own_ch_187_3_128_143, if_pos (own_gtT hL (k := (3 : Int32)) (m := 3) rfl (by omega)), G1 (i + (1 : Int32)).toNatClampNeg, own_ch_210_3_128_143, if_neg (own_ltF (x := f (i + (1 : Int32)).toNatClampNeg) rfl (k := (128 : Int32)) (m := 128) rfl (by omega)), if_neg (own_gtF (x := f (i + (1 : Int32)).toNatClampNeg) rfl (k := (143 : Int32)) (m := 143) rfl (by omega)), own_ch_226_3, if_pos ((F2g (i + (2 : Int32)).toNatClampNeg).mpr ⟨by omega, by omega⟩), if_pos ((F2g (i + (3 : Int32)).toNatClampNeg).mpr ⟨by omega, by omega⟩)], by rw [own_cl_0, own_cl_4, if_neg (own_ltF (x := f i.toNatClampNeg) rfl (k := (128 : Int32)) (m := 128) rfl (by omega)), if_neg (fun q => by have := (F4 i.toNatClampNeg).mp q; omega), if_neg (fun q => by have := (F5 i.toNatClampNeg).mp q; omega), if_pos ((F6 i.toNatClampNeg).mpr ⟨by omega, by omega⟩), own_cl_84_4, if_neg (own_ltF hL (k := (4 : Int32)) (m := 4) rfl (by omega)), if_pos ((F3 (i + (1 : Int32)).toNatClampNeg).mpr ⟨by omega, by omega⟩), own_cl_127_4, if_pos ((F3 (i + (2 : Int32)).toNatClampNeg).mpr ⟨by omega, by omega⟩), own_cl_166_4, if_pos ((F3 (i + (3 : Int32)).toNatClampNeg).mpr ⟨by omega, by omega⟩), own_cl_205_4, if_neg (own_ltF (c4 i.toNatClampNeg (i + (1 : Int32)).toNatClampNeg (i + (2 : Int32)).toNatClampNeg (i + (3 : Int32)).toNatClampNeg) (k := (65536 : Int32)) (m := 65536) rfl (by omega)), if_neg (own_gtF (c4 i.toNatClampNeg (i + (1 : Int32)).toNatClampNeg (i + (2 : Int32)).toNatClampNeg (i + (3 : Int32)).toNatClampNeg) (k := (1114111 : Int32)) (m := 1114111) rfl (by omega)), if_neg (own_ltF (c4 i.toNatClampNeg (i + (1 : Int32)).toNatClampNeg (i + (2 : Int32)).toNatClampNeg (i + (3 : Int32)).toNatClampNeg) (k := (55296 : Int32)) (m := 55296) rfl (by omega)), if_pos (own_gtT (c4 i.toNatClampNeg (i + (1 : Int32)).toNatClampNeg (i + (2 : Int32)).toNatClampNeg (i + (3 : Int32)).toNatClampNeg) (k := (57343 : Int32)) (m := 57343) rfl (by omega))], Or.inr ⟨by decide, by show _ + (4 : Int) ≤ _; omega⟩⟩
                            · exact ⟨(0 : Int32), by rw [own_ch_0, G1 i.toNatClampNeg, own_ch_23, if_neg (own_ltF (x := f i.toNatClampNeg) rfl (k := (128 : Int32)) (m := 128) rfl (by omega)), if_neg (own_ltF (x := f i.toNatClampNeg) rfl (k := (194 : Int32)) (m := 194) rfl (by omega)), if_pos (own_gtT (x := f i.toNatClampNeg) rfl (k := (223 : Int32)) (m := 223) rfl (by omega)), own_ch_69, if_neg (own_ltF (x := f i.toNatClampNeg) rfl (k := (224 : Int32)) (m := 224) rfl (by omega)), if_pos (own_gtT (x := f i.toNatClampNeg) rfl (k := (239 : Int32)) (m := 239) rfl (by omega)), own_ch_127, if_neg (own_ltF (x := f i.toNatClampNeg) rfl (k := (240 : Int32)) (m := 240) rfl (by omega)), if_neg (own_gtF (x := f i.toNatClampNeg) rfl (k := (244 : Int32)) (m := 244) rfl (by omega)), if_neg (own_eqF (x := f i.toNatClampNeg) rfl (k := (240 : Int32)) (m := 240) rfl (by omega)), if_pos (own_eqT (x := f i.toNatClampNeg) rfl (k := (244 : Int32)) (m := 244) rfl (by omega)), own_ch_187_3_128_143, if_pos (own_gtT hL (k := (3 : Int32)) (m := 3) rfl (by omega)), G1 (i + (1 : Int32)).toNatClampNeg, own_ch_210_3_128_143, if_neg (own_ltF (x := f (i + (1 : Int32)).toNatClampNeg) rfl (k := (128 : Int32)) (m := 128) rfl (by omega)), if_neg (own_gtF (x := f (i + (1 : Int32)).toNatClampNeg) rfl (k := (143 : Int32)) (m := 143) rfl (by omega)), own_ch_226_3, if_pos ((F2g (i + (2 : Int32)).toNatClampNeg).mpr ⟨by omega, by omega⟩), if_neg (fun q => by have := (F2g (i + (3 : Int32)).toNatClampNeg).mp q; omega)], by rw [own_cl_0, own_cl_4, if_neg (own_ltF (x := f i.toNatClampNeg) rfl (k := (128 : Int32)) (m := 128) rfl (by omega)), if_neg (fun q => by have := (F4 i.toNatClampNeg).mp q; omega), if_neg (fun q => by have := (F5 i.toNatClampNeg).mp q; omega), if_pos ((F6 i.toNatClampNeg).mpr ⟨by omega, by omega⟩), own_cl_84_4, if_neg (own_ltF hL (k := (4 : Int32)) (m := 4) rfl (by omega)), if_pos ((F3 (i + (1 : Int32)).toNatClampNeg).mpr ⟨by omega, by omega⟩), own_cl_127_4, if_pos ((F3 (i + (2 : Int32)).toNatClampNeg).mpr ⟨by omega, by omega⟩), own_cl_166_4, if_neg (fun q => by have := (F3 (i + (3 : Int32)).toNatClampNeg).mp q; omega)], Or.inl rfl⟩
                        · exact ⟨(0 : Int32), by rw [own_ch_0, G1 i.toNatClampNeg, own_ch_23, if_neg (own_ltF (x := f i.toNatClampNeg) rfl (k := (128 : Int32)) (m := 128) rfl (by omega)), if_neg (own_ltF (x := f i.toNatClampNeg) rfl (k := (194 : Int32)) (m := 194) rfl (by omega)), if_pos (own_gtT (x := f i.toNatClampNeg) rfl (k := (223 : Int32)) (m := 223) rfl (by omega)), own_ch_69, if_neg (own_ltF (x := f i.toNatClampNeg) rfl (k := (224 : Int32)) (m := 224) rfl (by omega)), if_pos (own_gtT (x := f i.toNatClampNeg) rfl (k := (239 : Int32)) (m := 239) rfl (by omega)), own_ch_127, if_neg (own_ltF (x := f i.toNatClampNeg) rfl (k := (240 : Int32)) (m := 240) rfl (by omega)), if_neg (own_gtF (x := f i.toNatClampNeg) rfl (k := (244 : Int32)) (m := 244) rfl (by omega)), if_neg (own_eqF (x := f i.toNatClampNeg) rfl (k := (240 : Int32)) (m := 240) rfl (by omega)), if_pos (own_eqT (x := f i.toNatClampNeg) rfl (k := (244 : Int32)) (m := 244) rfl (by omega)), own_ch_187_3_128_143, if_pos (own_gtT hL (k := (3 : Int32)) (m := 3) rfl (by omega)), G1 (i + (1 : Int32)).toNatClampNeg, own_ch_210_3_128_143, if_neg (own_ltF (x := f (i + (1 : Int32)).toNatClampNeg) rfl (k := (128 : Int32)) (m := 128) rfl (by omega)), if_neg (own_gtF (x := f (i + (1 : Int32)).toNatClampNeg) rfl (k := (143 : Int32)) (m := 143) rfl (by omega)), own_ch_226_3, if_neg (fun q => by have := (F2g (i + (2 : Int32)).toNatClampNeg).mp q; omega)], by rw [own_cl_0, own_cl_4, if_neg (own_ltF (x := f i.toNatClampNeg) rfl (k := (128 : Int32)) (m := 128) rfl (by omega)), if_neg (fun q => by have := (F4 i.toNatClampNeg).mp q; omega), if_neg (fun q => by have := (F5 i.toNatClampNeg).mp q; omega), if_pos ((F6 i.toNatClampNeg).mpr ⟨by omega, by omega⟩), own_cl_84_4, if_neg (own_ltF hL (k := (4 : Int32)) (m := 4) rfl (by omega)), if_pos ((F3 (i + (1 : Int32)).toNatClampNeg).mpr ⟨by omega, by omega⟩), own_cl_127_4, if_neg (fun q => by have := (F3 (i + (2 : Int32)).toNatClampNeg).mp q; omega)], Or.inl rfl⟩
                    · by_cases hh70 : D < 192
                      · by_cases hh71 : E < 128
                        · exact ⟨(0 : Int32), by rw [own_ch_0, G1 i.toNatClampNeg, own_ch_23, if_neg (own_ltF (x := f i.toNatClampNeg) rfl (k := (128 : Int32)) (m := 128) rfl (by omega)), if_neg (own_ltF (x := f i.toNatClampNeg) rfl (k := (194 : Int32)) (m := 194) rfl (by omega)), if_pos (own_gtT (x := f i.toNatClampNeg) rfl (k := (223 : Int32)) (m := 223) rfl (by omega)), own_ch_69, if_neg (own_ltF (x := f i.toNatClampNeg) rfl (k := (224 : Int32)) (m := 224) rfl (by omega)), if_pos (own_gtT (x := f i.toNatClampNeg) rfl (k := (239 : Int32)) (m := 239) rfl (by omega)), own_ch_127, if_neg (own_ltF (x := f i.toNatClampNeg) rfl (k := (240 : Int32)) (m := 240) rfl (by omega)), if_neg (own_gtF (x := f i.toNatClampNeg) rfl (k := (244 : Int32)) (m := 244) rfl (by omega)), if_neg (own_eqF (x := f i.toNatClampNeg) rfl (k := (240 : Int32)) (m := 240) rfl (by omega)), if_pos (own_eqT (x := f i.toNatClampNeg) rfl (k := (244 : Int32)) (m := 244) rfl (by omega)), own_ch_187_3_128_143, if_pos (own_gtT hL (k := (3 : Int32)) (m := 3) rfl (by omega)), G1 (i + (1 : Int32)).toNatClampNeg, own_ch_210_3_128_143, if_neg (own_ltF (x := f (i + (1 : Int32)).toNatClampNeg) rfl (k := (128 : Int32)) (m := 128) rfl (by omega)), if_pos (own_gtT (x := f (i + (1 : Int32)).toNatClampNeg) rfl (k := (143 : Int32)) (m := 143) rfl (by omega))], by rw [own_cl_0, own_cl_4, if_neg (own_ltF (x := f i.toNatClampNeg) rfl (k := (128 : Int32)) (m := 128) rfl (by omega)), if_neg (fun q => by have := (F4 i.toNatClampNeg).mp q; omega), if_neg (fun q => by have := (F5 i.toNatClampNeg).mp q; omega), if_pos ((F6 i.toNatClampNeg).mpr ⟨by omega, by omega⟩), own_cl_84_4, if_neg (own_ltF hL (k := (4 : Int32)) (m := 4) rfl (by omega)), if_pos ((F3 (i + (1 : Int32)).toNatClampNeg).mpr ⟨by omega, by omega⟩), own_cl_127_4, if_neg (fun q => by have := (F3 (i + (2 : Int32)).toNatClampNeg).mp q; omega)], Or.inl rfl⟩
                        · by_cases hh72 : E < 192
                          · by_cases hh73 : G < 128
                            · exact ⟨(0 : Int32), by rw [own_ch_0, G1 i.toNatClampNeg, own_ch_23, if_neg (own_ltF (x := f i.toNatClampNeg) rfl (k := (128 : Int32)) (m := 128) rfl (by omega)), if_neg (own_ltF (x := f i.toNatClampNeg) rfl (k := (194 : Int32)) (m := 194) rfl (by omega)), if_pos (own_gtT (x := f i.toNatClampNeg) rfl (k := (223 : Int32)) (m := 223) rfl (by omega)), own_ch_69, if_neg (own_ltF (x := f i.toNatClampNeg) rfl (k := (224 : Int32)) (m := 224) rfl (by omega)), if_pos (own_gtT (x := f i.toNatClampNeg) rfl (k := (239 : Int32)) (m := 239) rfl (by omega)), own_ch_127, if_neg (own_ltF (x := f i.toNatClampNeg) rfl (k := (240 : Int32)) (m := 240) rfl (by omega)), if_neg (own_gtF (x := f i.toNatClampNeg) rfl (k := (244 : Int32)) (m := 244) rfl (by omega)), if_neg (own_eqF (x := f i.toNatClampNeg) rfl (k := (240 : Int32)) (m := 240) rfl (by omega)), if_pos (own_eqT (x := f i.toNatClampNeg) rfl (k := (244 : Int32)) (m := 244) rfl (by omega)), own_ch_187_3_128_143, if_pos (own_gtT hL (k := (3 : Int32)) (m := 3) rfl (by omega)), G1 (i + (1 : Int32)).toNatClampNeg, own_ch_210_3_128_143, if_neg (own_ltF (x := f (i + (1 : Int32)).toNatClampNeg) rfl (k := (128 : Int32)) (m := 128) rfl (by omega)), if_pos (own_gtT (x := f (i + (1 : Int32)).toNatClampNeg) rfl (k := (143 : Int32)) (m := 143) rfl (by omega))], by rw [own_cl_0, own_cl_4, if_neg (own_ltF (x := f i.toNatClampNeg) rfl (k := (128 : Int32)) (m := 128) rfl (by omega)), if_neg (fun q => by have := (F4 i.toNatClampNeg).mp q; omega), if_neg (fun q => by have := (F5 i.toNatClampNeg).mp q; omega), if_pos ((F6 i.toNatClampNeg).mpr ⟨by omega, by omega⟩), own_cl_84_4, if_neg (own_ltF hL (k := (4 : Int32)) (m := 4) rfl (by omega)), if_pos ((F3 (i + (1 : Int32)).toNatClampNeg).mpr ⟨by omega, by omega⟩), own_cl_127_4, if_pos ((F3 (i + (2 : Int32)).toNatClampNeg).mpr ⟨by omega, by omega⟩), own_cl_166_4, if_neg (fun q => by have := (F3 (i + (3 : Int32)).toNatClampNeg).mp q; omega)], Or.inl rfl⟩
                            · by_cases hh74 : G < 192
                              · exact ⟨(0 : Int32), by rw [own_ch_0, G1 i.toNatClampNeg, own_ch_23, if_neg (own_ltF (x := f i.toNatClampNeg) rfl (k := (128 : Int32)) (m := 128) rfl (by omega)), if_neg (own_ltF (x := f i.toNatClampNeg) rfl (k := (194 : Int32)) (m := 194) rfl (by omega)), if_pos (own_gtT (x := f i.toNatClampNeg) rfl (k := (223 : Int32)) (m := 223) rfl (by omega)), own_ch_69, if_neg (own_ltF (x := f i.toNatClampNeg) rfl (k := (224 : Int32)) (m := 224) rfl (by omega)), if_pos (own_gtT (x := f i.toNatClampNeg) rfl (k := (239 : Int32)) (m := 239) rfl (by omega)), own_ch_127, if_neg (own_ltF (x := f i.toNatClampNeg) rfl (k := (240 : Int32)) (m := 240) rfl (by omega)), if_neg (own_gtF (x := f i.toNatClampNeg) rfl (k := (244 : Int32)) (m := 244) rfl (by omega)), if_neg (own_eqF (x := f i.toNatClampNeg) rfl (k := (240 : Int32)) (m := 240) rfl (by omega)), if_pos (own_eqT (x := f i.toNatClampNeg) rfl (k := (244 : Int32)) (m := 244) rfl (by omega)), own_ch_187_3_128_143, if_pos (own_gtT hL (k := (3 : Int32)) (m := 3) rfl (by omega)), G1 (i + (1 : Int32)).toNatClampNeg, own_ch_210_3_128_143, if_neg (own_ltF (x := f (i + (1 : Int32)).toNatClampNeg) rfl (k := (128 : Int32)) (m := 128) rfl (by omega)), if_pos (own_gtT (x := f (i + (1 : Int32)).toNatClampNeg) rfl (k := (143 : Int32)) (m := 143) rfl (by omega))], by rw [own_cl_0, own_cl_4, if_neg (own_ltF (x := f i.toNatClampNeg) rfl (k := (128 : Int32)) (m := 128) rfl (by omega)), if_neg (fun q => by have := (F4 i.toNatClampNeg).mp q; omega), if_neg (fun q => by have := (F5 i.toNatClampNeg).mp q; omega), if_pos ((F6 i.toNatClampNeg).mpr ⟨by omega, by omega⟩), own_cl_84_4, if_neg (own_ltF hL (k := (4 : Int32)) (m := 4) rfl (by omega)), if_pos ((F3 (i + (1 : Int32)).toNatClampNeg).mpr ⟨by omega, by omega⟩), own_cl_127_4, if_pos ((F3 (i + (2 : Int32)).toNatClampNeg).mpr ⟨by omega, by omega⟩), own_cl_166_4, if_pos ((F3 (i + (3 : Int32)).toNatClampNeg).mpr ⟨by omega, by omega⟩), own_cl_205_4, if_neg (own_ltF (c4 i.toNatClampNeg (i + (1 : Int32)).toNatClampNeg (i + (2 : Int32)).toNatClampNeg (i + (3 : Int32)).toNatClampNeg) (k := (65536 : Int32)) (m := 65536) rfl (by omega)), if_pos (own_gtT (c4 i.toNatClampNeg (i + (1 : Int32)).toNatClampNeg (i + (2 : Int32)).toNatClampNeg (i + (3 : Int32)).toNatClampNeg) (k := (1114111 : Int32)) (m := 1114111) rfl (by omega))], Or.inl rfl⟩
                              · exact ⟨(0 : Int32), by rw [own_ch_0, G1 i.toNatClampNeg, own_ch_23, if_neg (own_ltF (x := f i.toNatClampNeg) rfl (k := (128 : Int32)) (m := 128) rfl (by omega)), if_neg (own_ltF (x := f i.toNatClampNeg) rfl (k := (194 : Int32)) (m := 194) rfl (by omega)), if_pos (own_gtT (x := f i.toNatClampNeg) rfl (k := (223 : Int32)) (m := 223) rfl (by omega)), own_ch_69, if_neg (own_ltF (x := f i.toNatClampNeg) rfl (k := (224 : Int32)) (m := 224) rfl (by omega)), if_pos (own_gtT (x := f i.toNatClampNeg) rfl (k := (239 : Int32)) (m := 239) rfl (by omega)), own_ch_127, if_neg (own_ltF (x := f i.toNatClampNeg) rfl (k := (240 : Int32)) (m := 240) rfl (by omega)), if_neg (own_gtF (x := f i.toNatClampNeg) rfl (k := (244 : Int32)) (m := 244) rfl (by omega)), if_neg (own_eqF (x := f i.toNatClampNeg) rfl (k := (240 : Int32)) (m := 240) rfl (by omega)), if_pos (own_eqT (x := f i.toNatClampNeg) rfl (k := (244 : Int32)) (m := 244) rfl (by omega)), own_ch_187_3_128_143, if_pos (own_gtT hL (k := (3 : Int32)) (m := 3) rfl (by omega)), G1 (i + (1 : Int32)).toNatClampNeg, own_ch_210_3_128_143, if_neg (own_ltF (x := f (i + (1 : Int32)).toNatClampNeg) rfl (k := (128 : Int32)) (m := 128) rfl (by omega)), if_pos (own_gtT (x := f (i + (1 : Int32)).toNatClampNeg) rfl (k := (143 : Int32)) (m := 143) rfl (by omega))], by rw [own_cl_0, own_cl_4, if_neg (own_ltF (x := f i.toNatClampNeg) rfl (k := (128 : Int32)) (m := 128) rfl (by omega)), if_neg (fun q => by have := (F4 i.toNatClampNeg).mp q; omega), if_neg (fun q => by have := (F5 i.toNatClampNeg).mp q; omega), if_pos ((F6 i.toNatClampNeg).mpr ⟨by omega, by omega⟩), own_cl_84_4, if_neg (own_ltF hL (k := (4 : Int32)) (m := 4) rfl (by omega)), if_pos ((F3 (i + (1 : Int32)).toNatClampNeg).mpr ⟨by omega, by omega⟩), own_cl_127_4, if_pos ((F3 (i + (2 : Int32)).toNatClampNeg).mpr ⟨by omega, by omega⟩), own_cl_166_4, if_neg (fun q => by have := (F3 (i + (3 : Int32)).toNatClampNeg).mp q; omega)], Or.inl rfl⟩
                          · exact ⟨(0 : Int32), by rw [own_ch_0, G1 i.toNatClampNeg, own_ch_23, if_neg (own_ltF (x := f i.toNatClampNeg) rfl (k := (128 : Int32)) (m := 128) rfl (by omega)), if_neg (own_ltF (x := f i.toNatClampNeg) rfl (k := (194 : Int32)) (m := 194) rfl (by omega)), if_pos (own_gtT (x := f i.toNatClampNeg) rfl (k := (223 : Int32)) (m := 223) rfl (by omega)), own_ch_69, if_neg (own_ltF (x := f i.toNatClampNeg) rfl (k := (224 : Int32)) (m := 224) rfl (by omega)), if_pos (own_gtT (x := f i.toNatClampNeg) rfl (k := (239 : Int32)) (m := 239) rfl (by omega)), own_ch_127, if_neg (own_ltF (x := f i.toNatClampNeg) rfl (k := (240 : Int32)) (m := 240) rfl (by omega)), if_neg (own_gtF (x := f i.toNatClampNeg) rfl (k := (244 : Int32)) (m := 244) rfl (by omega)), if_neg (own_eqF (x := f i.toNatClampNeg) rfl (k := (240 : Int32)) (m := 240) rfl (by omega)), if_pos (own_eqT (x := f i.toNatClampNeg) rfl (k := (244 : Int32)) (m := 244) rfl (by omega)), own_ch_187_3_128_143, if_pos (own_gtT hL (k := (3 : Int32)) (m := 3) rfl (by omega)), G1 (i + (1 : Int32)).toNatClampNeg, own_ch_210_3_128_143, if_neg (own_ltF (x := f (i + (1 : Int32)).toNatClampNeg) rfl (k := (128 : Int32)) (m := 128) rfl (by omega)), if_pos (own_gtT (x := f (i + (1 : Int32)).toNatClampNeg) rfl (k := (143 : Int32)) (m := 143) rfl (by omega))], by rw [own_cl_0, own_cl_4, if_neg (own_ltF (x := f i.toNatClampNeg) rfl (k := (128 : Int32)) (m := 128) rfl (by omega)), if_neg (fun q => by have := (F4 i.toNatClampNeg).mp q; omega), if_neg (fun q => by have := (F5 i.toNatClampNeg).mp q; omega), if_pos ((F6 i.toNatClampNeg).mpr ⟨by omega, by omega⟩), own_cl_84_4, if_neg (own_ltF hL (k := (4 : Int32)) (m := 4) rfl (by omega)), if_pos ((F3 (i + (1 : Int32)).toNatClampNeg).mpr ⟨by omega, by omega⟩), own_cl_127_4, if_neg (fun q => by have := (F3 (i + (2 : Int32)).toNatClampNeg).mp q; omega)], Or.inl rfl⟩
                      · exact ⟨(0 : Int32), by rw [own_ch_0, G1 i.toNatClampNeg, own_ch_23, if_neg (own_ltF (x := f i.toNatClampNeg) rfl (k := (128 : Int32)) (m := 128) rfl (by omega)), if_neg (own_ltF (x := f i.toNatClampNeg) rfl (k := (194 : Int32)) (m := 194) rfl (by omega)), if_pos (own_gtT (x := f i.toNatClampNeg) rfl (k := (223 : Int32)) (m := 223) rfl (by omega)), own_ch_69, if_neg (own_ltF (x := f i.toNatClampNeg) rfl (k := (224 : Int32)) (m := 224) rfl (by omega)), if_pos (own_gtT (x := f i.toNatClampNeg) rfl (k := (239 : Int32)) (m := 239) rfl (by omega)), own_ch_127, if_neg (own_ltF (x := f i.toNatClampNeg) rfl (k := (240 : Int32)) (m := 240) rfl (by omega)), if_neg (own_gtF (x := f i.toNatClampNeg) rfl (k := (244 : Int32)) (m := 244) rfl (by omega)), if_neg (own_eqF (x := f i.toNatClampNeg) rfl (k := (240 : Int32)) (m := 240) rfl (by omega)), if_pos (own_eqT (x := f i.toNatClampNeg) rfl (k := (244 : Int32)) (m := 244) rfl (by omega)), own_ch_187_3_128_143, if_pos (own_gtT hL (k := (3 : Int32)) (m := 3) rfl (by omega)), G1 (i + (1 : Int32)).toNatClampNeg, own_ch_210_3_128_143, if_neg (own_ltF (x := f (i + (1 : Int32)).toNatClampNeg) rfl (k := (128 : Int32)) (m := 128) rfl (by omega)), if_pos (own_gtT (x := f (i + (1 : Int32)).toNatClampNeg) rfl (k := (143 : Int32)) (m := 143) rfl (by omega))], by rw [own_cl_0, own_cl_4, if_neg (own_ltF (x := f i.toNatClampNeg) rfl (k := (128 : Int32)) (m := 128) rfl (by omega)), if_neg (fun q => by have := (F4 i.toNatClampNeg).mp q; omega), if_neg (fun q => by have := (F5 i.toNatClampNeg).mp q; omega), if_pos ((F6 i.toNatClampNeg).mpr ⟨by omega, by omega⟩), own_cl_84_4, if_neg (own_ltF hL (k := (4 : Int32)) (m := 4) rfl (by omega)), if_neg (fun q => by have := (F3 (i + (1 : Int32)).toNatClampNeg).mp q; omega)], Or.inl rfl⟩
          · by_cases hh75 : C < 248
            · by_cases hh76 : L < 4
              · exact ⟨(0 : Int32), by rw [own_ch_0, G1 i.toNatClampNeg, own_ch_23, if_neg (own_ltF (x := f i.toNatClampNeg) rfl (k := (128 : Int32)) (m := 128) rfl (by omega)), if_neg (own_ltF (x := f i.toNatClampNeg) rfl (k := (194 : Int32)) (m := 194) rfl (by omega)), if_pos (own_gtT (x := f i.toNatClampNeg) rfl (k := (223 : Int32)) (m := 223) rfl (by omega)), own_ch_69, if_neg (own_ltF (x := f i.toNatClampNeg) rfl (k := (224 : Int32)) (m := 224) rfl (by omega)), if_pos (own_gtT (x := f i.toNatClampNeg) rfl (k := (239 : Int32)) (m := 239) rfl (by omega)), own_ch_127, if_neg (own_ltF (x := f i.toNatClampNeg) rfl (k := (240 : Int32)) (m := 240) rfl (by omega)), if_pos (own_gtT (x := f i.toNatClampNeg) rfl (k := (244 : Int32)) (m := 244) rfl (by omega))], by rw [own_cl_0, own_cl_4, if_neg (own_ltF (x := f i.toNatClampNeg) rfl (k := (128 : Int32)) (m := 128) rfl (by omega)), if_neg (fun q => by have := (F4 i.toNatClampNeg).mp q; omega), if_neg (fun q => by have := (F5 i.toNatClampNeg).mp q; omega), if_pos ((F6 i.toNatClampNeg).mpr ⟨by omega, by omega⟩), own_cl_84_4, if_pos (own_ltT hL (k := (4 : Int32)) (m := 4) rfl (by omega))], Or.inl rfl⟩
              · by_cases hh77 : D < 128
                · exact ⟨(0 : Int32), by rw [own_ch_0, G1 i.toNatClampNeg, own_ch_23, if_neg (own_ltF (x := f i.toNatClampNeg) rfl (k := (128 : Int32)) (m := 128) rfl (by omega)), if_neg (own_ltF (x := f i.toNatClampNeg) rfl (k := (194 : Int32)) (m := 194) rfl (by omega)), if_pos (own_gtT (x := f i.toNatClampNeg) rfl (k := (223 : Int32)) (m := 223) rfl (by omega)), own_ch_69, if_neg (own_ltF (x := f i.toNatClampNeg) rfl (k := (224 : Int32)) (m := 224) rfl (by omega)), if_pos (own_gtT (x := f i.toNatClampNeg) rfl (k := (239 : Int32)) (m := 239) rfl (by omega)), own_ch_127, if_neg (own_ltF (x := f i.toNatClampNeg) rfl (k := (240 : Int32)) (m := 240) rfl (by omega)), if_pos (own_gtT (x := f i.toNatClampNeg) rfl (k := (244 : Int32)) (m := 244) rfl (by omega))], by rw [own_cl_0, own_cl_4, if_neg (own_ltF (x := f i.toNatClampNeg) rfl (k := (128 : Int32)) (m := 128) rfl (by omega)), if_neg (fun q => by have := (F4 i.toNatClampNeg).mp q; omega), if_neg (fun q => by have := (F5 i.toNatClampNeg).mp q; omega), if_pos ((F6 i.toNatClampNeg).mpr ⟨by omega, by omega⟩), own_cl_84_4, if_neg (own_ltF hL (k := (4 : Int32)) (m := 4) rfl (by omega)), if_neg (fun q => by have := (F3 (i + (1 : Int32)).toNatClampNeg).mp q; omega)], Or.inl rfl⟩
                · by_cases hh78 : D < 192
                  · by_cases hh79 : E < 128
                    · exact ⟨(0 : Int32), by rw [own_ch_0, G1 i.toNatClampNeg, own_ch_23, if_neg (own_ltF (x := f i.toNatClampNeg) rfl (k := (128 : Int32)) (m := 128) rfl (by omega)), if_neg (own_ltF (x := f i.toNatClampNeg) rfl (k := (194 : Int32)) (m := 194) rfl (by omega)), if_pos (own_gtT (x := f i.toNatClampNeg) rfl (k := (223 : Int32)) (m := 223) rfl (by omega)), own_ch_69, if_neg (own_ltF (x := f i.toNatClampNeg) rfl (k := (224 : Int32)) (m := 224) rfl (by omega)), if_pos (own_gtT (x := f i.toNatClampNeg) rfl (k := (239 : Int32)) (m := 239) rfl (by omega)), own_ch_127, if_neg (own_ltF (x := f i.toNatClampNeg) rfl (k := (240 : Int32)) (m := 240) rfl (by omega)), if_pos (own_gtT (x := f i.toNatClampNeg) rfl (k := (244 : Int32)) (m := 244) rfl (by omega))], by rw [own_cl_0, own_cl_4, if_neg (own_ltF (x := f i.toNatClampNeg) rfl (k := (128 : Int32)) (m := 128) rfl (by omega)), if_neg (fun q => by have := (F4 i.toNatClampNeg).mp q; omega), if_neg (fun q => by have := (F5 i.toNatClampNeg).mp q; omega), if_pos ((F6 i.toNatClampNeg).mpr ⟨by omega, by omega⟩), own_cl_84_4, if_neg (own_ltF hL (k := (4 : Int32)) (m := 4) rfl (by omega)), if_pos ((F3 (i + (1 : Int32)).toNatClampNeg).mpr ⟨by omega, by omega⟩), own_cl_127_4, if_neg (fun q => by have := (F3 (i + (2 : Int32)).toNatClampNeg).mp q; omega)], Or.inl rfl⟩
                    · by_cases hh80 : E < 192
                      · by_cases hh81 : G < 128
                        · exact ⟨(0 : Int32), by rw [own_ch_0, G1 i.toNatClampNeg, own_ch_23, if_neg (own_ltF (x := f i.toNatClampNeg) rfl (k := (128 : Int32)) (m := 128) rfl (by omega)), if_neg (own_ltF (x := f i.toNatClampNeg) rfl (k := (194 : Int32)) (m := 194) rfl (by omega)), if_pos (own_gtT (x := f i.toNatClampNeg) rfl (k := (223 : Int32)) (m := 223) rfl (by omega)), own_ch_69, if_neg (own_ltF (x := f i.toNatClampNeg) rfl (k := (224 : Int32)) (m := 224) rfl (by omega)), if_pos (own_gtT (x := f i.toNatClampNeg) rfl (k := (239 : Int32)) (m := 239) rfl (by omega)), own_ch_127, if_neg (own_ltF (x := f i.toNatClampNeg) rfl (k := (240 : Int32)) (m := 240) rfl (by omega)), if_pos (own_gtT (x := f i.toNatClampNeg) rfl (k := (244 : Int32)) (m := 244) rfl (by omega))], by rw [own_cl_0, own_cl_4, if_neg (own_ltF (x := f i.toNatClampNeg) rfl (k := (128 : Int32)) (m := 128) rfl (by omega)), if_neg (fun q => by have := (F4 i.toNatClampNeg).mp q; omega), if_neg (fun q => by have := (F5 i.toNatClampNeg).mp q; omega), if_pos ((F6 i.toNatClampNeg).mpr ⟨by omega, by omega⟩), own_cl_84_4, if_neg (own_ltF hL (k := (4 : Int32)) (m := 4) rfl (by omega)), if_pos ((F3 (i + (1 : Int32)).toNatClampNeg).mpr ⟨by omega, by omega⟩), own_cl_127_4, if_pos ((F3 (i + (2 : Int32)).toNatClampNeg).mpr ⟨by omega, by omega⟩), own_cl_166_4, if_neg (fun q => by have := (F3 (i + (3 : Int32)).toNatClampNeg).mp q; omega)], Or.inl rfl⟩
                        · by_cases hh82 : G < 192
                          · exact ⟨(0 : Int32), by rw [own_ch_0, G1 i.toNatClampNeg, own_ch_23, if_neg (own_ltF (x := f i.toNatClampNeg) rfl (k := (128 : Int32)) (m := 128) rfl (by omega)), if_neg (own_ltF (x := f i.toNatClampNeg) rfl (k := (194 : Int32)) (m := 194) rfl (by omega)), if_pos (own_gtT (x := f i.toNatClampNeg) rfl (k := (223 : Int32)) (m := 223) rfl (by omega)), own_ch_69, if_neg (own_ltF (x := f i.toNatClampNeg) rfl (k := (224 : Int32)) (m := 224) rfl (by omega)), if_pos (own_gtT (x := f i.toNatClampNeg) rfl (k := (239 : Int32)) (m := 239) rfl (by omega)), own_ch_127, if_neg (own_ltF (x := f i.toNatClampNeg) rfl (k := (240 : Int32)) (m := 240) rfl (by omega)), if_pos (own_gtT (x := f i.toNatClampNeg) rfl (k := (244 : Int32)) (m := 244) rfl (by omega))], by rw [own_cl_0, own_cl_4, if_neg (own_ltF (x := f i.toNatClampNeg) rfl (k := (128 : Int32)) (m := 128) rfl (by omega)), if_neg (fun q => by have := (F4 i.toNatClampNeg).mp q; omega), if_neg (fun q => by have := (F5 i.toNatClampNeg).mp q; omega), if_pos ((F6 i.toNatClampNeg).mpr ⟨by omega, by omega⟩), own_cl_84_4, if_neg (own_ltF hL (k := (4 : Int32)) (m := 4) rfl (by omega)), if_pos ((F3 (i + (1 : Int32)).toNatClampNeg).mpr ⟨by omega, by omega⟩), own_cl_127_4, if_pos ((F3 (i + (2 : Int32)).toNatClampNeg).mpr ⟨by omega, by omega⟩), own_cl_166_4, if_pos ((F3 (i + (3 : Int32)).toNatClampNeg).mpr ⟨by omega, by omega⟩), own_cl_205_4, if_neg (own_ltF (c4 i.toNatClampNeg (i + (1 : Int32)).toNatClampNeg (i + (2 : Int32)).toNatClampNeg (i + (3 : Int32)).toNatClampNeg) (k := (65536 : Int32)) (m := 65536) rfl (by omega)), if_pos (own_gtT (c4 i.toNatClampNeg (i + (1 : Int32)).toNatClampNeg (i + (2 : Int32)).toNatClampNeg (i + (3 : Int32)).toNatClampNeg) (k := (1114111 : Int32)) (m := 1114111) rfl (by omega))], Or.inl rfl⟩
                          · exact ⟨(0 : Int32), by rw [own_ch_0, G1 i.toNatClampNeg, own_ch_23, if_neg (own_ltF (x := f i.toNatClampNeg) rfl (k := (128 : Int32)) (m := 128) rfl (by omega)), if_neg (own_ltF (x := f i.toNatClampNeg) rfl (k := (194 : Int32)) (m := 194) rfl (by omega)), if_pos (own_gtT (x := f i.toNatClampNeg) rfl (k := (223 : Int32)) (m := 223) rfl (by omega)), own_ch_69, if_neg (own_ltF (x := f i.toNatClampNeg) rfl (k := (224 : Int32)) (m := 224) rfl (by omega)), if_pos (own_gtT (x := f i.toNatClampNeg) rfl (k := (239 : Int32)) (m := 239) rfl (by omega)), own_ch_127, if_neg (own_ltF (x := f i.toNatClampNeg) rfl (k := (240 : Int32)) (m := 240) rfl (by omega)), if_pos (own_gtT (x := f i.toNatClampNeg) rfl (k := (244 : Int32)) (m := 244) rfl (by omega))], by rw [own_cl_0, own_cl_4, if_neg (own_ltF (x := f i.toNatClampNeg) rfl (k := (128 : Int32)) (m := 128) rfl (by omega)), if_neg (fun q => by have := (F4 i.toNatClampNeg).mp q; omega), if_neg (fun q => by have := (F5 i.toNatClampNeg).mp q; omega), if_pos ((F6 i.toNatClampNeg).mpr ⟨by omega, by omega⟩), own_cl_84_4, if_neg (own_ltF hL (k := (4 : Int32)) (m := 4) rfl (by omega)), if_pos ((F3 (i + (1 : Int32)).toNatClampNeg).mpr ⟨by omega, by omega⟩), own_cl_127_4, if_pos ((F3 (i + (2 : Int32)).toNatClampNeg).mpr ⟨by omega, by omega⟩), own_cl_166_4, if_neg (fun q => by have := (F3 (i + (3 : Int32)).toNatClampNeg).mp q; omega)], Or.inl rfl⟩
                      · exact ⟨(0 : Int32), by rw [own_ch_0, G1 i.toNatClampNeg, own_ch_23, if_neg (own_ltF (x := f i.toNatClampNeg) rfl (k := (128 : Int32)) (m := 128) rfl (by omega)), if_neg (own_ltF (x := f i.toNatClampNeg) rfl (k := (194 : Int32)) (m := 194) rfl (by omega)), if_pos (own_gtT (x := f i.toNatClampNeg) rfl (k := (223 : Int32)) (m := 223) rfl (by omega)), own_ch_69, if_neg (own_ltF (x := f i.toNatClampNeg) rfl (k := (224 : Int32)) (m := 224) rfl (by omega)), if_pos (own_gtT (x := f i.toNatClampNeg) rfl (k := (239 : Int32)) (m := 239) rfl (by omega)), own_ch_127, if_neg (own_ltF (x := f i.toNatClampNeg) rfl (k := (240 : Int32)) (m := 240) rfl (by omega)), if_pos (own_gtT (x := f i.toNatClampNeg) rfl (k := (244 : Int32)) (m := 244) rfl (by omega))], by rw [own_cl_0, own_cl_4, if_neg (own_ltF (x := f i.toNatClampNeg) rfl (k := (128 : Int32)) (m := 128) rfl (by omega)), if_neg (fun q => by have := (F4 i.toNatClampNeg).mp q; omega), if_neg (fun q => by have := (F5 i.toNatClampNeg).mp q; omega), if_pos ((F6 i.toNatClampNeg).mpr ⟨by omega, by omega⟩), own_cl_84_4, if_neg (own_ltF hL (k := (4 : Int32)) (m := 4) rfl (by omega)), if_pos ((F3 (i + (1 : Int32)).toNatClampNeg).mpr ⟨by omega, by omega⟩), own_cl_127_4, if_neg (fun q => by have := (F3 (i + (2 : Int32)).toNatClampNeg).mp q; omega)], Or.inl rfl⟩
                  · exact ⟨(0 : Int32), by rw [own_ch_0, G1 i.toNatClampNeg, own_ch_23, if_neg (own_ltF (x := f i.toNatClampNeg) rfl (k := (128 : Int32)) (m := 128) rfl (by omega)), if_neg (own_ltF (x := f i.toNatClampNeg) rfl (k := (194 : Int32)) (m := 194) rfl (by omega)), if_pos (own_gtT (x := f i.toNatClampNeg) rfl (k := (223 : Int32)) (m := 223) rfl (by omega)), own_ch_69, if_neg (own_ltF (x := f i.toNatClampNeg) rfl (k := (224 : Int32)) (m := 224) rfl (by omega)), if_pos (own_gtT (x := f i.toNatClampNeg) rfl (k := (239 : Int32)) (m := 239) rfl (by omega)), own_ch_127, if_neg (own_ltF (x := f i.toNatClampNeg) rfl (k := (240 : Int32)) (m := 240) rfl (by omega)), if_pos (own_gtT (x := f i.toNatClampNeg) rfl (k := (244 : Int32)) (m := 244) rfl (by omega))], by rw [own_cl_0, own_cl_4, if_neg (own_ltF (x := f i.toNatClampNeg) rfl (k := (128 : Int32)) (m := 128) rfl (by omega)), if_neg (fun q => by have := (F4 i.toNatClampNeg).mp q; omega), if_neg (fun q => by have := (F5 i.toNatClampNeg).mp q; omega), if_pos ((F6 i.toNatClampNeg).mpr ⟨by omega, by omega⟩), own_cl_84_4, if_neg (own_ltF hL (k := (4 : Int32)) (m := 4) rfl (by omega)), if_neg (fun q => by have := (F3 (i + (1 : Int32)).toNatClampNeg).mp q; omega)], Or.inl rfl⟩
            · exact ⟨(0 : Int32), by rw [own_ch_0, G1 i.toNatClampNeg, own_ch_23, if_neg (own_ltF (x := f i.toNatClampNeg) rfl (k := (128 : Int32)) (m := 128) rfl (by omega)), if_neg (own_ltF (x := f i.toNatClampNeg) rfl (k := (194 : Int32)) (m := 194) rfl (by omega)), if_pos (own_gtT (x := f i.toNatClampNeg) rfl (k := (223 : Int32)) (m := 223) rfl (by omega)), own_ch_69, if_neg (own_ltF (x := f i.toNatClampNeg) rfl (k := (224 : Int32)) (m := 224) rfl (by omega)), if_pos (own_gtT (x := f i.toNatClampNeg) rfl (k := (239 : Int32)) (m := 239) rfl (by omega)), own_ch_127, if_neg (own_ltF (x := f i.toNatClampNeg) rfl (k := (240 : Int32)) (m := 240) rfl (by omega)), if_pos (own_gtT (x := f i.toNatClampNeg) rfl (k := (244 : Int32)) (m := 244) rfl (by omega))], by rw [own_cl_0, own_cl_4, if_neg (own_ltF (x := f i.toNatClampNeg) rfl (k := (128 : Int32)) (m := 128) rfl (by omega)), if_neg (fun q => by have := (F4 i.toNatClampNeg).mp q; omega), if_neg (fun q => by have := (F5 i.toNatClampNeg).mp q; omega), if_neg (fun q => by have := (F6 i.toNatClampNeg).mp q; omega)], Or.inl rfl⟩
theorem own_B (f g : Nat → Int32) (hf : ∀ k, 0 ≤ (f k).toInt ∧ (f k).toInt ≤ 255) (hg : ∀ k, g k = (f k).toInt8.toInt32) (i en : Int32) (h0 : 0 ≤ i.toInt) (h1 : i < en) :
    own_ch_0 g en i = own_cl_0 f i en ∧ (own_cl_0 f i en = (0 : Int32) ∨ (1 ≤ (own_cl_0 f i en).toInt ∧ i.toInt + (own_cl_0 f i en).toInt ≤ en.toInt)) := by
  obtain ⟨V, e1, e2, e3⟩ := own_B0 f g hf hg i en h0 h1
  rw [e1, e2]
  exact ⟨rfl, e3⟩
/-- m steps of the reference -/
def own_it (f : Nat → Int32) (en : Int32) : Nat → Int32 → Int32
  | 0, i => i
  | m + 1, i => own_it f en m (own_step_0 f i en)
theorem own_itN (f : Nat → Int32) (en : Int32) : ∀ m, own_it f en m (-1 : Int32) = (-1 : Int32)
  | 0 => rfl
  | m + 1 => by
    rw [own_it, own_step_0, if_pos (by decide)]
    exact own_itN f en m
theorem own_itE (f : Nat → Int32) (en : Int32) : ∀ m, own_it f en m en = en
  | 0 => rfl
  | m + 1 => by
    have e : own_step_0 f en en = en := by
      rw [own_step_0]
      repeat' split
      all_goals first | rfl | (rename_i q _; exact absurd q Int32.lt_irrefl) | (rename_i q; exact absurd q Int32.lt_irrefl)
    rw [own_it, e]
    exact own_itE f en m
theorem own_C (f g : Nat → Int32) (hf : ∀ k, 0 ≤ (f k).toInt ∧ (f k).toInt ≤ 255) (hg : ∀ k, g k = (f k).toInt8.toInt32) (en : Int32) (he : 0 ≤ en.toInt) :
    ∀ (m : Nat) (k : Nat) (i : Int32), 0 ≤ i.toInt → i.toInt ≤ en.toInt → en.toInt - i.toInt ≤ m → en.toInt - i.toInt ≤ k → own_u8A g en k i = if own_it f en m i = en then (1 : Int32) else (0 : Int32) := by
  intro m
  have base : ∀ (k : Nat), own_u8A g en k en = (1 : Int32) := fun k => by
    cases k with
    | zero => rfl
    | succ k => rw [own_u8A, if_neg Int32.lt_irrefl]
  induction m with
  | zero =>
    intro k i h0 h1 h2 h3
    have e : i = en := Int32.toInt_inj.mp (by omega)
    subst e
    rw [base, own_it, if_pos rfl]
  | succ m ih =>
    intro k i h0 h1 h2 h3
    by_cases q : i < en
    · have q' := Int32.lt_iff_toInt_lt.mp q
      obtain ⟨B1, B2⟩ := own_B f g hf hg i en h0 q
      have nn : ¬ i < (0 : Int32) := fun z => by
        have := Int32.lt_iff_toInt_lt.mp z
        have e0 : (0 : Int32).toInt = 0 := rfl
        omega
      cases k with
      | zero => exfalso; omega
      | succ k =>
        rw [own_u8A, if_pos q, B1, own_it, own_step_0, if_neg nn, if_pos q]
        by_cases z : own_cl_0 f i en = (0 : Int32)
        · rw [if_pos z, if_pos z, own_itN, if_neg (fun w => by
            have : (-1 : Int32).toInt = en.toInt := by rw [w]
            have e1 : (-1 : Int32).toInt = -1 := rfl
            omega)]
        · rw [if_neg z, if_neg z]
          obtain ⟨d1, d2⟩ := B2.resolve_left z
          have hn := en.toInt_lt
          have es : (i + own_cl_0 f i en).toInt = i.toInt + (own_cl_0 f i en).toInt := Jvm.Kit.i32_add (by omega) (by omega)
          exact ih k _ (by omega) (by omega) (by omega) (by omega)
    · have e : i = en := Int32.toInt_inj.mp (by
        have : ¬ i.toInt < en.toInt := fun z => q (Int32.lt_iff_toInt_lt.mpr z)
        omega)
      subst e
      rw [base, own_itE, if_pos rfl]
theorem own_same (v0 v1 v2 v3 v4 v5 nf nl : Int32) (b0 : 0 ≤ v0.toInt ∧ v0.toInt ≤ 255) (b1 : 0 ≤ v1.toInt ∧ v1.toInt ≤ 255) (b2 : 0 ≤ v2.toInt ∧ v2.toInt ≤ 255) (b3 : 0 ≤ v3.toInt ∧ v3.toInt ≤ 255) (b4 : 0 ≤ v4.toInt ∧ v4.toInt ≤ 255) (b5 : 0 ≤ v5.toInt ∧ v5.toInt ≤ 255)
    (hf : 0 ≤ nf.toInt ∧ nf.toInt ≤ 2) (hl : 0 ≤ nl.toInt ∧ nl.toInt ≤ 4) :
    own_u8_0 (fun i => ([(v0.toInt8.toInt32), (v1.toInt8.toInt32), (v2.toInt8.toInt32), (v3.toInt8.toInt32), (v4.toInt8.toInt32), (v5.toInt8.toInt32)] : List Int32).getD i 0) nf nl = own_ref_0 (fun i => ([v0, v1, v2, v3, v4, v5] : List Int32).getD i 0) nf (nf + nl) := by
  have e : (nf + nl).toInt = nf.toInt + nl.toInt := Jvm.Kit.i32_add (by omega) (by omega)
  have hb : ∀ k, 0 ≤ ((fun i => ([v0, v1, v2, v3, v4, v5] : List Int32).getD i 0) k).toInt ∧ ((fun i => ([v0, v1, v2, v3, v4, v5] : List Int32).getD i 0) k).toInt ≤ 255
    | 0 => b0 | 1 => b1 | 2 => b2 | 3 => b3 | 4 => b4 | 5 => b5 | _ + 6 => by show 0 ≤ (0 : Int32).toInt ∧ (0 : Int32).toInt ≤ 255; decide
  have hg : ∀ k, (fun i => ([(v0.toInt8.toInt32), (v1.toInt8.toInt32), (v2.toInt8.toInt32), (v3.toInt8.toInt32), (v4.toInt8.toInt32), (v5.toInt8.toInt32)] : List Int32).getD i 0) k = ((fun i => ([v0, v1, v2, v3, v4, v5] : List Int32).getD i 0) k).toInt8.toInt32
    | 0 => rfl | 1 => rfl | 2 => rfl | 3 => rfl | 4 => rfl | 5 => rfl | _ + 6 => rfl
  have h := own_C _ _ hb hg (nf + nl) (by omega) 4 (nf + nl).toNatClampNeg nf hf.1 (by omega) (by omega) (by show _ ≤ ((nf + nl).toInt.toNat : Int); omega)
  exact h
theorem pd__28_5bIII_29Z : parseMethodDescriptor "([III)Z" = some ⟨[(.array .int), .int, .int], some .boolean⟩ := by decide +kernel
theorem pd__28_5bBII_29Z : parseMethodDescriptor "([BII)Z" = some ⟨[(.array .byte), .int, .int], some .boolean⟩ := by decide +kernel
theorem pn_0 : plainName "com/example/fieldbook/fieldbook/StrictTextIsUtf8PinLaw" = true := by first | (simp [plainName, overriddenIn]; done) | decide +kernel
theorem ef_0 (m : MethodId) (x0 : Int32) (x1 : Int32) (x2 : Int32) (x3 : Int32) : entryFrame m #[(.int x0), (.int x1), (.int x2), (.int x3)] maxLocals = mkF m 0 #[.val (.int x0), .val (.int x1), .val (.int x2), .val (.int x3), .unset, .unset, .unset, .unset, .unset] [] := by first | (simp [entryFrame, mkF, argsToLocals, Value.category, maxLocals]; done) | rfl
def Q0 (p1 : Int32) (p2 : Int32) (p3 : Int32) (p4 : Int32) (h0 : Heap) (n0 : Nat) (v : Option Value) (h : Heap) (L : List Loc) : Prop := v = some (.int 1) ∧ Fr n0 L
set_option maxRecDepth 65536 in
set_option maxHeartbeats 40000000 in
theorem rm0 (l : Launch) (Z : State) (a0 : Array Value) (hw : ∀ d ∈ tables_1, d.before a0 Z = true) (ws : List Jvm.Cond) (p1 : Int32) (p2 : Int32) (p3 : Int32) (p4 : Int32) (h0 : Heap) (n0 : Nat) (Z0 : n0 ≤ h0.size)  :
    MetFree l x (head1 (Jvm.Cond.code x code maxLocals ret :: ws) room_1) (fun a U => a = #[(.int p1), (.int p2), (.int p3), (.int p4)] ∧ Z.Warmed39 U.vm ∧ U.heap = h0) (fun _ _ _ _ _ => True) (fun _ U o U' => ∃ v L, o = .returned v ∧ Q0 p1 p2 p3 p4 h0 n0 v U'.heap L ∧ FrameEnd U o U' L 16 128) := by
  refine MetFree.of_bodySF (plainFor_of_name pn_0) hisR ?_
  intro p e s m args below meth c s₁ Bd hml0 hP hK
  obtain ⟨rfl, hZ, hh⟩ := hP
  have hx := Bd.exec
  have hby := Bd.bytes
  have hml : c.maxLocals = 9 := hml0
  have hown : s.vm.findClass "com/example/fieldbook/fieldbook/StrictTextIsUtf8PinLaw" = some m.cls := findClass_of_methodNamed Bd.named
  have hnm := (name_of_methodNamed Bd.named Bd.method).1
  have X0 : Stand p l e room_1 s m #[(.int p1), (.int p2), (.int p3), (.int p4)] below meth c s₁ [] 0 0 := Stand.of_body Bd
  have e0 : s₁.heap = h0 := by rw [← hh, Bd.state]; rfl
  have N0 := Fr.nil n0
  show own_Go p e below s (Q0 p1 p2 p3 p4 h0 n0) 16 128 (s₁.setTop (entryFrame m #[(.int p1), (.int p2), (.int p3), (.int p4)] maxLocals))
  refine own_go (b := s₁.setTop (mkF m 0 #[.val (.int p1), .val (.int p2), .val (.int p3), .val (.int p4), .unset, .unset, .unset, .unset, .unset] [])) (fun t k => castTop (ef_0 m p1 p2 p3 p4) k) ?_
  obtain ⟨T1, h1, k1, X1, e1, E1, A1, B1, st1⟩ := newPE X0 hx hZ (hw _ (List.mem_of_getElem? (i := 0) rfl)) e0 (g := (mkF m 2 #[.val (.int p1), .val (.int p2), .val (.int p3), .val (.int p4), .unset, .unset, .unset, .unset, .unset] [(.int (6 : Int32))])) rfl (hb hby at_2) rfl (by decide) (cap := 6) (by decide) (by decide) (by decide) (by decide) (ad := "[I") (by first | rfl | decide +kernel)
  obtain ⟨a1, ga1⟩ : ∃ z, z = h0.size := ⟨_, rfl⟩
  rw [← ga1] at A1 B1 st1
  have lo1 : n0 ≤ a1 := Nat.le_trans Z0 (Nat.le_of_eq ga1.symm)
  have Z1 : n0 ≤ h1.size := Nat.le_trans Z0 E1.1
  have V2 : Arv Z h1 a1 k1 .int (6 : Int32) [(.int (0 : Int32)), (.int (0 : Int32)), (.int (0 : Int32)), (.int (0 : Int32)), (.int (0 : Int32)), (.int (0 : Int32))] (.int (0 : Int32)) := (Arv.new A1 (by decide)).pad (pad_rep [] (.int (0 : Int32)) 6)
  obtain ⟨cl3, Ar3, q3, S3, M3, H3, U3⟩ := id V2
  obtain ⟨T4, h4, X4, e4, W4, st4⟩ := stI X1 hx hZ e1 Ar3 (j := (0 : Int32)) (by rw [S3]; decide) (g := (mkF m 14 #[.val (.int p1), .val (.int p2), .val (.int p3), .val (.int p4), .val (.ref a1), .unset, .unset, .unset, .unset] [(.int (p1 &&& (255 : Int32))), (.int (0 : Int32)), (.ref a1)])) rfl rfl (hb hby at_14)
  have N4 := Fr.snoc X4 N0 lo1
  have V5 : Arv Z h4 a1 k1 .int (6 : Int32) [(.int (p1 &&& (255 : Int32))), (.int (0 : Int32)), (.int (0 : Int32)), (.int (0 : Int32)), (.int (0 : Int32)), (.int (0 : Int32))] (.int (0 : Int32)) := Arv.set Ar3 q3 S3 M3 H3 U3 rfl W4 0 rfl (by show 0 < 6; decide)
  have E6 := B1.wr W4
  have Z4 : n0 ≤ h4.size := by rw [W4.size]; exact Z1
  obtain ⟨cl7, Ar7, q7, S7, M7, H7, U7⟩ := id V5
  obtain ⟨T8, h8, X8, e8, W8, st8⟩ := stI X4 hx hZ e4 Ar7 (j := (1 : Int32)) (by rw [S7]; decide) (g := (mkF m 26 #[.val (.int p1), .val (.int p2), .val (.int p3), .val (.int p4), .val (.ref a1), .unset, .unset, .unset, .unset] [(.int (((p1.toUInt32 >>> ((8 : Int32) &&& 31).toUInt32).toInt32) &&& (255 : Int32))), (.int (1 : Int32)), (.ref a1)])) rfl rfl (hb hby at_26)
  have N8 := Fr.snoc X8 N4 lo1
  have V9 : Arv Z h8 a1 k1 .int (6 : Int32) [(.int (p1 &&& (255 : Int32))), (.int (((p1.toUInt32 >>> ((8 : Int32) &&& 31).toUInt32).toInt32) &&& (255 : Int32))), (.int (0 : Int32)), (.int (0 : Int32)), (.int (0 : Int32)), (.int (0 : Int32))] (.int (0 : Int32)) := Arv.set Ar7 q7 S7 M7 H7 U7 rfl W8 1 rfl (by show 1 < 6; decide)
  have E10 := E6.wr W8
  have Z8 : n0 ≤ h8.size := by rw [W8.size]; exact Z4
  obtain ⟨cl11, Ar11, q11, S11, M11, H11, U11⟩ := id V9
  obtain ⟨T12, h12, X12, e12, W12, st12⟩ := stI X8 hx hZ e8 Ar11 (j := (2 : Int32)) (by rw [S11]; decide) (g := (mkF m 38 #[.val (.int p1), .val (.int p2), .val (.int p3), .val (.int p4), .val (.ref a1), .unset, .unset, .unset, .unset] [(.int (((p1.toUInt32 >>> ((16 : Int32) &&& 31).toUInt32).toInt32) &&& (255 : Int32))), (.int (2 : Int32)), (.ref a1)])) rfl rfl (hb hby at_38)
  have N12 := Fr.snoc X12 N8 lo1
  have V13 : Arv Z h12 a1 k1 .int (6 : Int32) [(.int (p1 &&& (255 : Int32))), (.int (((p1.toUInt32 >>> ((8 : Int32) &&& 31).toUInt32).toInt32) &&& (255 : Int32))), (.int (((p1.toUInt32 >>> ((16 : Int32) &&& 31).toUInt32).toInt32) &&& (255 : Int32))), (.int (0 : Int32)), (.int (0 : Int32)), (.int (0 : Int32))] (.int (0 : Int32)) := Arv.set Ar11 q11 S11 M11 H11 U11 rfl W12 2 rfl (by show 2 < 6; decide)
  have E14 := E10.wr W12
  have Z12 : n0 ≤ h12.size := by rw [W12.size]; exact Z8
  obtain ⟨cl15, Ar15, q15, S15, M15, H15, U15⟩ := id V13
  obtain ⟨T16, h16, X16, e16, W16, st16⟩ := stI X12 hx hZ e12 Ar15 (j := (3 : Int32)) (by rw [S15]; decide) (g := (mkF m 50 #[.val (.int p1), .val (.int p2), .val (.int p3), .val (.int p4), .val (.ref a1), .unset, .unset, .unset, .unset] [(.int (((p1.toUInt32 >>> ((24 : Int32) &&& 31).toUInt32).toInt32) &&& (255 : Int32))), (.int (3 : Int32)), (.ref a1)])) rfl rfl (hb hby at_50)
  have N16 := Fr.snoc X16 N12 lo1
  have V17 : Arv Z h16 a1 k1 .int (6 : Int32) [(.int (p1 &&& (255 : Int32))), (.int (((p1.toUInt32 >>> ((8 : Int32) &&& 31).toUInt32).toInt32) &&& (255 : Int32))), (.int (((p1.toUInt32 >>> ((16 : Int32) &&& 31).toUInt32).toInt32) &&& (255 : Int32))), (.int (((p1.toUInt32 >>> ((24 : Int32) &&& 31).toUInt32).toInt32) &&& (255 : Int32))), (.int (0 : Int32)), (.int (0 : Int32))] (.int (0 : Int32)) := Arv.set Ar15 q15 S15 M15 H15 U15 rfl W16 3 rfl (by show 3 < 6; decide)
  have E18 := E14.wr W16
  have Z16 : n0 ≤ h16.size := by rw [W16.size]; exact Z12
  obtain ⟨cl19, Ar19, q19, S19, M19, H19, U19⟩ := id V17
  obtain ⟨T20, h20, X20, e20, W20, st20⟩ := stI X16 hx hZ e16 Ar19 (j := (4 : Int32)) (by rw [S19]; decide) (g := (mkF m 59 #[.val (.int p1), .val (.int p2), .val (.int p3), .val (.int p4), .val (.ref a1), .unset, .unset, .unset, .unset] [(.int (p2 &&& (255 : Int32))), (.int (4 : Int32)), (.ref a1)])) rfl rfl (hb hby at_59)
  have N20 := Fr.snoc X20 N16 lo1
  have V21 : Arv Z h20 a1 k1 .int (6 : Int32) [(.int (p1 &&& (255 : Int32))), (.int (((p1.toUInt32 >>> ((8 : Int32) &&& 31).toUInt32).toInt32) &&& (255 : Int32))), (.int (((p1.toUInt32 >>> ((16 : Int32) &&& 31).toUInt32).toInt32) &&& (255 : Int32))), (.int (((p1.toUInt32 >>> ((24 : Int32) &&& 31).toUInt32).toInt32) &&& (255 : Int32))), (.int (p2 &&& (255 : Int32))), (.int (0 : Int32))] (.int (0 : Int32)) := Arv.set Ar19 q19 S19 M19 H19 U19 rfl W20 4 rfl (by show 4 < 6; decide)
  have E22 := E18.wr W20
  have Z20 : n0 ≤ h20.size := by rw [W20.size]; exact Z16
  obtain ⟨cl23, Ar23, q23, S23, M23, H23, U23⟩ := id V21
  obtain ⟨T24, h24, X24, e24, W24, st24⟩ := stI X20 hx hZ e20 Ar23 (j := (5 : Int32)) (by rw [S23]; decide) (g := (mkF m 71 #[.val (.int p1), .val (.int p2), .val (.int p3), .val (.int p4), .val (.ref a1), .unset, .unset, .unset, .unset] [(.int (((p2.toUInt32 >>> ((8 : Int32) &&& 31).toUInt32).toInt32) &&& (255 : Int32))), (.int (5 : Int32)), (.ref a1)])) rfl rfl (hb hby at_71)
  have N24 := Fr.snoc X24 N20 lo1
  have V25 : Arv Z h24 a1 k1 .int (6 : Int32) [(.int (p1 &&& (255 : Int32))), (.int (((p1.toUInt32 >>> ((8 : Int32) &&& 31).toUInt32).toInt32) &&& (255 : Int32))), (.int (((p1.toUInt32 >>> ((16 : Int32) &&& 31).toUInt32).toInt32) &&& (255 : Int32))), (.int (((p1.toUInt32 >>> ((24 : Int32) &&& 31).toUInt32).toInt32) &&& (255 : Int32))), (.int (p2 &&& (255 : Int32))), (.int (((p2.toUInt32 >>> ((8 : Int32) &&& 31).toUInt32).toInt32) &&& (255 : Int32)))] (.int (0 : Int32)) := Arv.set Ar23 q23 S23 M23 H23 U23 rfl W24 5 rfl (by show 5 < 6; decide)
  have E26 := E22.wr W24
  have Z24 : n0 ≤ h24.size := by rw [W24.size]; exact Z20
  refine own_go (b := T24.setTop (mkF m 72 #[.val (.int p1), .val (.int p2), .val (.int p3), .val (.int p4), .val (.ref a1), .unset, .unset, .unset, .unset] [])) (fun t k => ?_) ?_
  · show Steps p.tables e below (s₁.setTop (mkF m 0 #[.val (.int p1), .val (.int p2), .val (.int p3), .val (.int p4), .unset, .unset, .unset, .unset, .unset] [])) _
    refine XS.bipush X0.here hx rfl (hb hby at_0) ?_
    show Steps p.tables e below (s₁.setTop (mkF m 2 #[.val (.int p1), .val (.int p2), .val (.int p3), .val (.int p4), .unset, .unset, .unset, .unset, .unset] [(.int (6 : Int32))])) _
    refine st1 _ ?_
    show Steps p.tables e below (T1.setTop (mkF m 4 #[.val (.int p1), .val (.int p2), .val (.int p3), .val (.int p4), .unset, .unset, .unset, .unset, .unset] [(.ref a1)])) _
    refine XS.astore X1.here hx rfl (hb hby at_4) rfl rfl (l' := #[.val (.int p1), .val (.int p2), .val (.int p3), .val (.int p4), .val (.ref a1), .unset, .unset, .unset, .unset]) rfl ?_
    show Steps p.tables e below (T1.setTop (mkF m 6 #[.val (.int p1), .val (.int p2), .val (.int p3), .val (.int p4), .val (.ref a1), .unset, .unset, .unset, .unset] [])) _
    refine XS.aload X1.here hx rfl (hb hby at_6) rfl rfl ?_
    show Steps p.tables e below (T1.setTop (mkF m 8 #[.val (.int p1), .val (.int p2), .val (.int p3), .val (.int p4), .val (.ref a1), .unset, .unset, .unset, .unset] [(.ref a1)])) _
    refine XS.iconst X1.here hx rfl (hb hby at_8) ?_
    show Steps p.tables e below (T1.setTop (mkF m 9 #[.val (.int p1), .val (.int p2), .val (.int p3), .val (.int p4), .val (.ref a1), .unset, .unset, .unset, .unset] [(.int (0 : Int32)), (.ref a1)])) _
    refine XS.iloadN X1.here hx rfl (hb hby at_9) rfl ?_
    show Steps p.tables e below (T1.setTop (mkF m 10 #[.val (.int p1), .val (.int p2), .val (.int p3), .val (.int p4), .val (.ref a1), .unset, .unset, .unset, .unset] [(.int p1), (.int (0 : Int32)), (.ref a1)])) _
    refine XS.sipush X1.here hx rfl (hb hby at_10) ?_
    show Steps p.tables e below (T1.setTop (mkF m 13 #[.val (.int p1), .val (.int p2), .val (.int p3), .val (.int p4), .val (.ref a1), .unset, .unset, .unset, .unset] [(.int (255 : Int32)), (.int p1), (.int (0 : Int32)), (.ref a1)])) _
    refine XS.iand X1.here hx rfl (hb hby at_13) rfl ?_
    show Steps p.tables e below (T1.setTop (mkF m 14 #[.val (.int p1), .val (.int p2), .val (.int p3), .val (.int p4), .val (.ref a1), .unset, .unset, .unset, .unset] [(.int (p1 &&& (255 : Int32))), (.int (0 : Int32)), (.ref a1)])) _
    refine st4 _ ?_
    show Steps p.tables e below (T4.setTop (mkF m 15 #[.val (.int p1), .val (.int p2), .val (.int p3), .val (.int p4), .val (.ref a1), .unset, .unset, .unset, .unset] [])) _
    refine XS.aload X4.here hx rfl (hb hby at_15) rfl rfl ?_
    show Steps p.tables e below (T4.setTop (mkF m 17 #[.val (.int p1), .val (.int p2), .val (.int p3), .val (.int p4), .val (.ref a1), .unset, .unset, .unset, .unset] [(.ref a1)])) _
    refine XS.iconst X4.here hx rfl (hb hby at_17) ?_
    show Steps p.tables e below (T4.setTop (mkF m 18 #[.val (.int p1), .val (.int p2), .val (.int p3), .val (.int p4), .val (.ref a1), .unset, .unset, .unset, .unset] [(.int (1 : Int32)), (.ref a1)])) _
    refine XS.iloadN X4.here hx rfl (hb hby at_18) rfl ?_
    show Steps p.tables e below (T4.setTop (mkF m 19 #[.val (.int p1), .val (.int p2), .val (.int p3), .val (.int p4), .val (.ref a1), .unset, .unset, .unset, .unset] [(.int p1), (.int (1 : Int32)), (.ref a1)])) _
    refine XS.bipush X4.here hx rfl (hb hby at_19) ?_
    show Steps p.tables e below (T4.setTop (mkF m 21 #[.val (.int p1), .val (.int p2), .val (.int p3), .val (.int p4), .val (.ref a1), .unset, .unset, .unset, .unset] [(.int (8 : Int32)), (.int p1), (.int (1 : Int32)), (.ref a1)])) _
    refine XS.iushr X4.here hx rfl (hb hby at_21) rfl ?_
    show Steps p.tables e below (T4.setTop (mkF m 22 #[.val (.int p1), .val (.int p2), .val (.int p3), .val (.int p4), .val (.ref a1), .unset, .unset, .unset, .unset] [(.int ((p1.toUInt32 >>> ((8 : Int32) &&& 31).toUInt32).toInt32)), (.int (1 : Int32)), (.ref a1)])) _
    refine XS.sipush X4.here hx rfl (hb hby at_22) ?_
    show Steps p.tables e below (T4.setTop (mkF m 25 #[.val (.int p1), .val (.int p2), .val (.int p3), .val (.int p4), .val (.ref a1), .unset, .unset, .unset, .unset] [(.int (255 : Int32)), (.int ((p1.toUInt32 >>> ((8 : Int32) &&& 31).toUInt32).toInt32)), (.int (1 : Int32)), (.ref a1)])) _
    refine XS.iand X4.here hx rfl (hb hby at_25) rfl ?_
    show Steps p.tables e below (T4.setTop (mkF m 26 #[.val (.int p1), .val (.int p2), .val (.int p3), .val (.int p4), .val (.ref a1), .unset, .unset, .unset, .unset] [(.int (((p1.toUInt32 >>> ((8 : Int32) &&& 31).toUInt32).toInt32) &&& (255 : Int32))), (.int (1 : Int32)), (.ref a1)])) _
    refine st8 _ ?_
    show Steps p.tables e below (T8.setTop (mkF m 27 #[.val (.int p1), .val (.int p2), .val (.int p3), .val (.int p4), .val (.ref a1), .unset, .unset, .unset, .unset] [])) _
    refine XS.aload X8.here hx rfl (hb hby at_27) rfl rfl ?_
    show Steps p.tables e below (T8.setTop (mkF m 29 #[.val (.int p1), .val (.int p2), .val (.int p3), .val (.int p4), .val (.ref a1), .unset, .unset, .unset, .unset] [(.ref a1)])) _
    refine XS.iconst X8.here hx rfl (hb hby at_29) ?_
    show Steps p.tables e below (T8.setTop (mkF m 30 #[.val (.int p1), .val (.int p2), .val (.int p3), .val (.int p4), .val (.ref a1), .unset, .unset, .unset, .unset] [(.int (2 : Int32)), (.ref a1)])) _
    refine XS.iloadN X8.here hx rfl (hb hby at_30) rfl ?_
    show Steps p.tables e below (T8.setTop (mkF m 31 #[.val (.int p1), .val (.int p2), .val (.int p3), .val (.int p4), .val (.ref a1), .unset, .unset, .unset, .unset] [(.int p1), (.int (2 : Int32)), (.ref a1)])) _
    refine XS.bipush X8.here hx rfl (hb hby at_31) ?_
    show Steps p.tables e below (T8.setTop (mkF m 33 #[.val (.int p1), .val (.int p2), .val (.int p3), .val (.int p4), .val (.ref a1), .unset, .unset, .unset, .unset] [(.int (16 : Int32)), (.int p1), (.int (2 : Int32)), (.ref a1)])) _
    refine XS.iushr X8.here hx rfl (hb hby at_33) rfl ?_
    show Steps p.tables e below (T8.setTop (mkF m 34 #[.val (.int p1), .val (.int p2), .val (.int p3), .val (.int p4), .val (.ref a1), .unset, .unset, .unset, .unset] [(.int ((p1.toUInt32 >>> ((16 : Int32) &&& 31).toUInt32).toInt32)), (.int (2 : Int32)), (.ref a1)])) _
    refine XS.sipush X8.here hx rfl (hb hby at_34) ?_
    show Steps p.tables e below (T8.setTop (mkF m 37 #[.val (.int p1), .val (.int p2), .val (.int p3), .val (.int p4), .val (.ref a1), .unset, .unset, .unset, .unset] [(.int (255 : Int32)), (.int ((p1.toUInt32 >>> ((16 : Int32) &&& 31).toUInt32).toInt32)), (.int (2 : Int32)), (.ref a1)])) _
    refine XS.iand X8.here hx rfl (hb hby at_37) rfl ?_
    show Steps p.tables e below (T8.setTop (mkF m 38 #[.val (.int p1), .val (.int p2), .val (.int p3), .val (.int p4), .val (.ref a1), .unset, .unset, .unset, .unset] [(.int (((p1.toUInt32 >>> ((16 : Int32) &&& 31).toUInt32).toInt32) &&& (255 : Int32))), (.int (2 : Int32)), (.ref a1)])) _
    refine st12 _ ?_
    show Steps p.tables e below (T12.setTop (mkF m 39 #[.val (.int p1), .val (.int p2), .val (.int p3), .val (.int p4), .val (.ref a1), .unset, .unset, .unset, .unset] [])) _
    refine XS.aload X12.here hx rfl (hb hby at_39) rfl rfl ?_
    show Steps p.tables e below (T12.setTop (mkF m 41 #[.val (.int p1), .val (.int p2), .val (.int p3), .val (.int p4), .val (.ref a1), .unset, .unset, .unset, .unset] [(.ref a1)])) _
    refine XS.iconst X12.here hx rfl (hb hby at_41) ?_
    show Steps p.tables e below (T12.setTop (mkF m 42 #[.val (.int p1), .val (.int p2), .val (.int p3), .val (.int p4), .val (.ref a1), .unset, .unset, .unset, .unset] [(.int (3 : Int32)), (.ref a1)])) _
    refine XS.iloadN X12.here hx rfl (hb hby at_42) rfl ?_
    show Steps p.tables e below (T12.setTop (mkF m 43 #[.val (.int p1), .val (.int p2), .val (.int p3), .val (.int p4), .val (.ref a1), .unset, .unset, .unset, .unset] [(.int p1), (.int (3 : Int32)), (.ref a1)])) _
    refine XS.bipush X12.here hx rfl (hb hby at_43) ?_
    show Steps p.tables e below (T12.setTop (mkF m 45 #[.val (.int p1), .val (.int p2), .val (.int p3), .val (.int p4), .val (.ref a1), .unset, .unset, .unset, .unset] [(.int (24 : Int32)), (.int p1), (.int (3 : Int32)), (.ref a1)])) _
    refine XS.iushr X12.here hx rfl (hb hby at_45) rfl ?_
    show Steps p.tables e below (T12.setTop (mkF m 46 #[.val (.int p1), .val (.int p2), .val (.int p3), .val (.int p4), .val (.ref a1), .unset, .unset, .unset, .unset] [(.int ((p1.toUInt32 >>> ((24 : Int32) &&& 31).toUInt32).toInt32)), (.int (3 : Int32)), (.ref a1)])) _
    refine XS.sipush X12.here hx rfl (hb hby at_46) ?_
    show Steps p.tables e below (T12.setTop (mkF m 49 #[.val (.int p1), .val (.int p2), .val (.int p3), .val (.int p4), .val (.ref a1), .unset, .unset, .unset, .unset] [(.int (255 : Int32)), (.int ((p1.toUInt32 >>> ((24 : Int32) &&& 31).toUInt32).toInt32)), (.int (3 : Int32)), (.ref a1)])) _
    refine XS.iand X12.here hx rfl (hb hby at_49) rfl ?_
    show Steps p.tables e below (T12.setTop (mkF m 50 #[.val (.int p1), .val (.int p2), .val (.int p3), .val (.int p4), .val (.ref a1), .unset, .unset, .unset, .unset] [(.int (((p1.toUInt32 >>> ((24 : Int32) &&& 31).toUInt32).toInt32) &&& (255 : Int32))), (.int (3 : Int32)), (.ref a1)])) _
    refine st16 _ ?_
    show Steps p.tables e below (T16.setTop (mkF m 51 #[.val (.int p1), .val (.int p2), .val (.int p3), .val (.int p4), .val (.ref a1), .unset, .unset, .unset, .unset] [])) _
    refine XS.aload X16.here hx rfl (hb hby at_51) rfl rfl ?_
    show Steps p.tables e below (T16.setTop (mkF m 53 #[.val (.int p1), .val (.int p2), .val (.int p3), .val (.int p4), .val (.ref a1), .unset, .unset, .unset, .unset] [(.ref a1)])) _
    refine XS.iconst X16.here hx rfl (hb hby at_53) ?_
    show Steps p.tables e below (T16.setTop (mkF m 54 #[.val (.int p1), .val (.int p2), .val (.int p3), .val (.int p4), .val (.ref a1), .unset, .unset, .unset, .unset] [(.int (4 : Int32)), (.ref a1)])) _
    refine XS.iloadN X16.here hx rfl (hb hby at_54) rfl ?_
    show Steps p.tables e below (T16.setTop (mkF m 55 #[.val (.int p1), .val (.int p2), .val (.int p3), .val (.int p4), .val (.ref a1), .unset, .unset, .unset, .unset] [(.int p2), (.int (4 : Int32)), (.ref a1)])) _
    refine XS.sipush X16.here hx rfl (hb hby at_55) ?_
    show Steps p.tables e below (T16.setTop (mkF m 58 #[.val (.int p1), .val (.int p2), .val (.int p3), .val (.int p4), .val (.ref a1), .unset, .unset, .unset, .unset] [(.int (255 : Int32)), (.int p2), (.int (4 : Int32)), (.ref a1)])) _
    refine XS.iand X16.here hx rfl (hb hby at_58) rfl ?_
    show Steps p.tables e below (T16.setTop (mkF m 59 #[.val (.int p1), .val (.int p2), .val (.int p3), .val (.int p4), .val (.ref a1), .unset, .unset, .unset, .unset] [(.int (p2 &&& (255 : Int32))), (.int (4 : Int32)), (.ref a1)])) _
    refine st20 _ ?_
    show Steps p.tables e below (T20.setTop (mkF m 60 #[.val (.int p1), .val (.int p2), .val (.int p3), .val (.int p4), .val (.ref a1), .unset, .unset, .unset, .unset] [])) _
    refine XS.aload X20.here hx rfl (hb hby at_60) rfl rfl ?_
    show Steps p.tables e below (T20.setTop (mkF m 62 #[.val (.int p1), .val (.int p2), .val (.int p3), .val (.int p4), .val (.ref a1), .unset, .unset, .unset, .unset] [(.ref a1)])) _
    refine XS.iconst X20.here hx rfl (hb hby at_62) ?_
    show Steps p.tables e below (T20.setTop (mkF m 63 #[.val (.int p1), .val (.int p2), .val (.int p3), .val (.int p4), .val (.ref a1), .unset, .unset, .unset, .unset] [(.int (5 : Int32)), (.ref a1)])) _
    refine XS.iloadN X20.here hx rfl (hb hby at_63) rfl ?_
    show Steps p.tables e below (T20.setTop (mkF m 64 #[.val (.int p1), .val (.int p2), .val (.int p3), .val (.int p4), .val (.ref a1), .unset, .unset, .unset, .unset] [(.int p2), (.int (5 : Int32)), (.ref a1)])) _
    refine XS.bipush X20.here hx rfl (hb hby at_64) ?_
    show Steps p.tables e below (T20.setTop (mkF m 66 #[.val (.int p1), .val (.int p2), .val (.int p3), .val (.int p4), .val (.ref a1), .unset, .unset, .unset, .unset] [(.int (8 : Int32)), (.int p2), (.int (5 : Int32)), (.ref a1)])) _
    refine XS.iushr X20.here hx rfl (hb hby at_66) rfl ?_
    show Steps p.tables e below (T20.setTop (mkF m 67 #[.val (.int p1), .val (.int p2), .val (.int p3), .val (.int p4), .val (.ref a1), .unset, .unset, .unset, .unset] [(.int ((p2.toUInt32 >>> ((8 : Int32) &&& 31).toUInt32).toInt32)), (.int (5 : Int32)), (.ref a1)])) _
    refine XS.sipush X20.here hx rfl (hb hby at_67) ?_
    show Steps p.tables e below (T20.setTop (mkF m 70 #[.val (.int p1), .val (.int p2), .val (.int p3), .val (.int p4), .val (.ref a1), .unset, .unset, .unset, .unset] [(.int (255 : Int32)), (.int ((p2.toUInt32 >>> ((8 : Int32) &&& 31).toUInt32).toInt32)), (.int (5 : Int32)), (.ref a1)])) _
    refine XS.iand X20.here hx rfl (hb hby at_70) rfl ?_
    show Steps p.tables e below (T20.setTop (mkF m 71 #[.val (.int p1), .val (.int p2), .val (.int p3), .val (.int p4), .val (.ref a1), .unset, .unset, .unset, .unset] [(.int (((p2.toUInt32 >>> ((8 : Int32) &&& 31).toUInt32).toInt32) &&& (255 : Int32))), (.int (5 : Int32)), (.ref a1)])) _
    refine st24 _ ?_
    show Steps p.tables e below (T24.setTop (mkF m 72 #[.val (.int p1), .val (.int p2), .val (.int p3), .val (.int p4), .val (.ref a1), .unset, .unset, .unset, .unset] [])) _
    exact k
  obtain ⟨v0, hv0⟩ : ∃ z : Int32, z = (p1 &&& (255 : Int32)) := ⟨_, rfl⟩
  rw [← hv0] at V25
  have b0 : 0 ≤ v0.toInt ∧ v0.toInt ≤ 255 := by rw [hv0]; exact own_255 _
  obtain ⟨v1, hv1⟩ : ∃ z : Int32, z = (((p1.toUInt32 >>> ((8 : Int32) &&& 31).toUInt32).toInt32) &&& (255 : Int32)) := ⟨_, rfl⟩
  rw [← hv1] at V25
  have b1 : 0 ≤ v1.toInt ∧ v1.toInt ≤ 255 := by rw [hv1]; exact own_255 _
  obtain ⟨v2, hv2⟩ : ∃ z : Int32, z = (((p1.toUInt32 >>> ((16 : Int32) &&& 31).toUInt32).toInt32) &&& (255 : Int32)) := ⟨_, rfl⟩
  rw [← hv2] at V25
  have b2 : 0 ≤ v2.toInt ∧ v2.toInt ≤ 255 := by rw [hv2]; exact own_255 _
  obtain ⟨v3, hv3⟩ : ∃ z : Int32, z = (((p1.toUInt32 >>> ((24 : Int32) &&& 31).toUInt32).toInt32) &&& (255 : Int32)) := ⟨_, rfl⟩
  rw [← hv3] at V25
  have b3 : 0 ≤ v3.toInt ∧ v3.toInt ≤ 255 := by rw [hv3]; exact own_255 _
  obtain ⟨v4, hv4⟩ : ∃ z : Int32, z = (p2 &&& (255 : Int32)) := ⟨_, rfl⟩
  rw [← hv4] at V25
  have b4 : 0 ≤ v4.toInt ∧ v4.toInt ≤ 255 := by rw [hv4]; exact own_255 _
  obtain ⟨v5, hv5⟩ : ∃ z : Int32, z = (((p2.toUInt32 >>> ((8 : Int32) &&& 31).toUInt32).toInt32) &&& (255 : Int32)) := ⟨_, rfl⟩
  rw [← hv5] at V25
  have b5 : 0 ≤ v5.toInt ∧ v5.toInt ≤ 255 := by rw [hv5]; exact own_255 _
  obtain ⟨T27, h27, k27, X27, e27, E27, A27, B27, st27⟩ := newPE X24 hx hZ (hw _ (List.mem_of_getElem? (i := 1) rfl)) e24 (g := (mkF m 74 #[.val (.int p1), .val (.int p2), .val (.int p3), .val (.int p4), .val (.ref a1), .unset, .unset, .unset, .unset] [(.int (6 : Int32))])) rfl (hb hby at_74) rfl (by decide) (cap := 6) (by decide) (by decide) (by decide) (by decide) (ad := "[B") (by first | rfl | decide +kernel)
  obtain ⟨a27, ga27⟩ : ∃ z, z = h24.size := ⟨_, rfl⟩
  rw [← ga27] at A27 B27 st27
  have lt27_a1 : a1 < a27 := by rw [ga27]; exact E26.lt
  have E28 := E26.ext E27
  have V29 := V25.ext E27
  have lo27 : n0 ≤ a27 := Nat.le_trans Z24 (Nat.le_of_eq ga27.symm)
  have Z27 : n0 ≤ h27.size := Nat.le_trans Z24 E27.1
  have V30 : Arv Z h27 a27 k27 .byte (6 : Int32) [(.int (0 : Int32)), (.int (0 : Int32)), (.int (0 : Int32)), (.int (0 : Int32)), (.int (0 : Int32)), (.int (0 : Int32))] (.int (0 : Int32)) := (Arv.new A27 (by decide)).pad (pad_rep [] (.int (0 : Int32)) 6)
  obtain ⟨cl31, Ar31, q31, S31, M31, H31, U31⟩ := id V29
  have hi32 : ¬ (0 : Int32) < 0 ∧ (0 : Int32).toNatClampNeg < (6 : Int32).toNatClampNeg := by decide
  have ha32 : cl31.slots[(0 : Int32).toNatClampNeg]? = some (.int v0) := H31 _ (by rw [S31]; exact hi32.2)
  obtain ⟨cl33, Ar33, q33, S33, M33, H33, U33⟩ := id V30
  obtain ⟨T34, h34, X34, e34, W34, st34⟩ := stB X27 hx hZ e27 Ar33 (j := (0 : Int32)) (by rw [S33]; decide) (g := (mkF m 86 #[.val (.int p1), .val (.int p2), .val (.int p3), .val (.int p4), .val (.ref a1), .val (.ref a27), .unset, .unset, .unset] [(.int (v0.toInt8.toInt32)), (.int (0 : Int32)), (.ref a27)])) rfl rfl (hb hby at_86)
  have N34 := Fr.snoc X34 N24 lo27
  have V35 : Arv Z h34 a27 k27 .byte (6 : Int32) [(.int (nar .byte (v0.toInt8.toInt32))), (.int (0 : Int32)), (.int (0 : Int32)), (.int (0 : Int32)), (.int (0 : Int32)), (.int (0 : Int32))] (.int (0 : Int32)) := Arv.set Ar33 q33 S33 M33 H33 U33 (fits_nar_byte _) W34 0 rfl (by show 0 < 6; decide)
  rw [own_narb v0] at V35
  have E36 := E28.wr W34
  have V37 := V29.other W34 (Nat.ne_of_lt lt27_a1)
  have E38 := B27.wr W34
  have Z34 : n0 ≤ h34.size := by rw [W34.size]; exact Z27
  obtain ⟨cl39, Ar39, q39, S39, M39, H39, U39⟩ := id V37
  have hi40 : ¬ (1 : Int32) < 0 ∧ (1 : Int32).toNatClampNeg < (6 : Int32).toNatClampNeg := by decide
  have ha40 : cl39.slots[(1 : Int32).toNatClampNeg]? = some (.int v1) := H39 _ (by rw [S39]; exact hi40.2)
  obtain ⟨cl41, Ar41, q41, S41, M41, H41, U41⟩ := id V35
  obtain ⟨T42, h42, X42, e42, W42, st42⟩ := stB X34 hx hZ e34 Ar41 (j := (1 : Int32)) (by rw [S41]; decide) (g := (mkF m 95 #[.val (.int p1), .val (.int p2), .val (.int p3), .val (.int p4), .val (.ref a1), .val (.ref a27), .unset, .unset, .unset] [(.int (v1.toInt8.toInt32)), (.int (1 : Int32)), (.ref a27)])) rfl rfl (hb hby at_95)
  have N42 := Fr.snoc X42 N34 lo27
  have V43 : Arv Z h42 a27 k27 .byte (6 : Int32) [(.int (v0.toInt8.toInt32)), (.int (nar .byte (v1.toInt8.toInt32))), (.int (0 : Int32)), (.int (0 : Int32)), (.int (0 : Int32)), (.int (0 : Int32))] (.int (0 : Int32)) := Arv.set Ar41 q41 S41 M41 H41 U41 (fits_nar_byte _) W42 1 rfl (by show 1 < 6; decide)
  rw [own_narb v1] at V43
  have E44 := E36.wr W42
  have V45 := V37.other W42 (Nat.ne_of_lt lt27_a1)
  have E46 := E38.wr W42
  have Z42 : n0 ≤ h42.size := by rw [W42.size]; exact Z34
  obtain ⟨cl47, Ar47, q47, S47, M47, H47, U47⟩ := id V45
  have hi48 : ¬ (2 : Int32) < 0 ∧ (2 : Int32).toNatClampNeg < (6 : Int32).toNatClampNeg := by decide
  have ha48 : cl47.slots[(2 : Int32).toNatClampNeg]? = some (.int v2) := H47 _ (by rw [S47]; exact hi48.2)
  obtain ⟨cl49, Ar49, q49, S49, M49, H49, U49⟩ := id V43
  obtain ⟨T50, h50, X50, e50, W50, st50⟩ := stB X42 hx hZ e42 Ar49 (j := (2 : Int32)) (by rw [S49]; decide) (g := (mkF m 104 #[.val (.int p1), .val (.int p2), .val (.int p3), .val (.int p4), .val (.ref a1), .val (.ref a27), .unset, .unset, .unset] [(.int (v2.toInt8.toInt32)), (.int (2 : Int32)), (.ref a27)])) rfl rfl (hb hby at_104)
  have N50 := Fr.snoc X50 N42 lo27
  have V51 : Arv Z h50 a27 k27 .byte (6 : Int32) [(.int (v0.toInt8.toInt32)), (.int (v1.toInt8.toInt32)), (.int (nar .byte (v2.toInt8.toInt32))), (.int (0 : Int32)), (.int (0 : Int32)), (.int (0 : Int32))] (.int (0 : Int32)) := Arv.set Ar49 q49 S49 M49 H49 U49 (fits_nar_byte _) W50 2 rfl (by show 2 < 6; decide)
  rw [own_narb v2] at V51
  have E52 := E44.wr W50
  have V53 := V45.other W50 (Nat.ne_of_lt lt27_a1)
  have E54 := E46.wr W50
  have Z50 : n0 ≤ h50.size := by rw [W50.size]; exact Z42
  obtain ⟨cl55, Ar55, q55, S55, M55, H55, U55⟩ := id V53
  have hi56 : ¬ (3 : Int32) < 0 ∧ (3 : Int32).toNatClampNeg < (6 : Int32).toNatClampNeg := by decide
  have ha56 : cl55.slots[(3 : Int32).toNatClampNeg]? = some (.int v3) := H55 _ (by rw [S55]; exact hi56.2)
  obtain ⟨cl57, Ar57, q57, S57, M57, H57, U57⟩ := id V51
  obtain ⟨T58, h58, X58, e58, W58, st58⟩ := stB X50 hx hZ e50 Ar57 (j := (3 : Int32)) (by rw [S57]; decide) (g := (mkF m 113 #[.val (.int p1), .val (.int p2), .val (.int p3), .val (.int p4), .val (.ref a1), .val (.ref a27), .unset, .unset, .unset] [(.int (v3.toInt8.toInt32)), (.int (3 : Int32)), (.ref a27)])) rfl rfl (hb hby at_113)
  have N58 := Fr.snoc X58 N50 lo27
  have V59 : Arv Z h58 a27 k27 .byte (6 : Int32) [(.int (v0.toInt8.toInt32)), (.int (v1.toInt8.toInt32)), (.int (v2.toInt8.toInt32)), (.int (nar .byte (v3.toInt8.toInt32))), (.int (0 : Int32)), (.int (0 : Int32))] (.int (0 : Int32)) := Arv.set Ar57 q57 S57 M57 H57 U57 (fits_nar_byte _) W58 3 rfl (by show 3 < 6; decide)
  rw [own_narb v3] at V59
  have E60 := E52.wr W58
  have V61 := V53.other W58 (Nat.ne_of_lt lt27_a1)
  have E62 := E54.wr W58
  have Z58 : n0 ≤ h58.size := by rw [W58.size]; exact Z50
  obtain ⟨cl63, Ar63, q63, S63, M63, H63, U63⟩ := id V61
  have hi64 : ¬ (4 : Int32) < 0 ∧ (4 : Int32).toNatClampNeg < (6 : Int32).toNatClampNeg := by decide
  have ha64 : cl63.slots[(4 : Int32).toNatClampNeg]? = some (.int v4) := H63 _ (by rw [S63]; exact hi64.2)
  obtain ⟨cl65, Ar65, q65, S65, M65, H65, U65⟩ := id V59
  obtain ⟨T66, h66, X66, e66, W66, st66⟩ := stB X58 hx hZ e58 Ar65 (j := (4 : Int32)) (by rw [S65]; decide) (g := (mkF m 122 #[.val (.int p1), .val (.int p2), .val (.int p3), .val (.int p4), .val (.ref a1), .val (.ref a27), .unset, .unset, .unset] [(.int (v4.toInt8.toInt32)), (.int (4 : Int32)), (.ref a27)])) rfl rfl (hb hby at_122)
  have N66 := Fr.snoc X66 N58 lo27
  have V67 : Arv Z h66 a27 k27 .byte (6 : Int32) [(.int (v0.toInt8.toInt32)), (.int (v1.toInt8.toInt32)), (.int (v2.toInt8.toInt32)), (.int (v3.toInt8.toInt32)), (.int (nar .byte (v4.toInt8.toInt32))), (.int (0 : Int32))] (.int (0 : Int32)) := Arv.set Ar65 q65 S65 M65 H65 U65 (fits_nar_byte _) W66 4 rfl (by show 4 < 6; decide)
  rw [own_narb v4] at V67
  have E68 := E60.wr W66
  have V69 := V61.other W66 (Nat.ne_of_lt lt27_a1)
  have E70 := E62.wr W66
  have Z66 : n0 ≤ h66.size := by rw [W66.size]; exact Z58
  obtain ⟨cl71, Ar71, q71, S71, M71, H71, U71⟩ := id V69
  have hi72 : ¬ (5 : Int32) < 0 ∧ (5 : Int32).toNatClampNeg < (6 : Int32).toNatClampNeg := by decide
  have ha72 : cl71.slots[(5 : Int32).toNatClampNeg]? = some (.int v5) := H71 _ (by rw [S71]; exact hi72.2)
  obtain ⟨cl73, Ar73, q73, S73, M73, H73, U73⟩ := id V67
  obtain ⟨T74, h74, X74, e74, W74, st74⟩ := stB X66 hx hZ e66 Ar73 (j := (5 : Int32)) (by rw [S73]; decide) (g := (mkF m 131 #[.val (.int p1), .val (.int p2), .val (.int p3), .val (.int p4), .val (.ref a1), .val (.ref a27), .unset, .unset, .unset] [(.int (v5.toInt8.toInt32)), (.int (5 : Int32)), (.ref a27)])) rfl rfl (hb hby at_131)
  have N74 := Fr.snoc X74 N66 lo27
  have V75 : Arv Z h74 a27 k27 .byte (6 : Int32) [(.int (v0.toInt8.toInt32)), (.int (v1.toInt8.toInt32)), (.int (v2.toInt8.toInt32)), (.int (v3.toInt8.toInt32)), (.int (v4.toInt8.toInt32)), (.int (nar .byte (v5.toInt8.toInt32)))] (.int (0 : Int32)) := Arv.set Ar73 q73 S73 M73 H73 U73 (fits_nar_byte _) W74 5 rfl (by show 5 < 6; decide)
  rw [own_narb v5] at V75
  have E76 := E68.wr W74
  have V77 := V69.other W74 (Nat.ne_of_lt lt27_a1)
  have E78 := E70.wr W74
  have Z74 : n0 ≤ h74.size := by rw [W74.size]; exact Z66
  refine own_go (b := T74.setTop (mkF m 148 #[.val (.int p1), .val (.int p2), .val (.int p3), .val (.int p4), .val (.ref a1), .val (.ref a27), .val (.int ((p3 &&& (2147483647 : Int32)) % (3 : Int32))), .val (.int ((p4 &&& (2147483647 : Int32)) % (5 : Int32))), .unset] [])) (fun t k => ?_) ?_
  · show Steps p.tables e below (T24.setTop (mkF m 72 #[.val (.int p1), .val (.int p2), .val (.int p3), .val (.int p4), .val (.ref a1), .unset, .unset, .unset, .unset] [])) _
    refine XS.bipush X24.here hx rfl (hb hby at_72) ?_
    show Steps p.tables e below (T24.setTop (mkF m 74 #[.val (.int p1), .val (.int p2), .val (.int p3), .val (.int p4), .val (.ref a1), .unset, .unset, .unset, .unset] [(.int (6 : Int32))])) _
    refine st27 _ ?_
    show Steps p.tables e below (T27.setTop (mkF m 76 #[.val (.int p1), .val (.int p2), .val (.int p3), .val (.int p4), .val (.ref a1), .unset, .unset, .unset, .unset] [(.ref a27)])) _
    refine XS.astore X27.here hx rfl (hb hby at_76) rfl rfl (l' := #[.val (.int p1), .val (.int p2), .val (.int p3), .val (.int p4), .val (.ref a1), .val (.ref a27), .unset, .unset, .unset]) rfl ?_
    show Steps p.tables e below (T27.setTop (mkF m 78 #[.val (.int p1), .val (.int p2), .val (.int p3), .val (.int p4), .val (.ref a1), .val (.ref a27), .unset, .unset, .unset] [])) _
    refine XS.aload X27.here hx rfl (hb hby at_78) rfl rfl ?_
    show Steps p.tables e below (T27.setTop (mkF m 80 #[.val (.int p1), .val (.int p2), .val (.int p3), .val (.int p4), .val (.ref a1), .val (.ref a27), .unset, .unset, .unset] [(.ref a27)])) _
    refine XS.iconst X27.here hx rfl (hb hby at_80) ?_
    show Steps p.tables e below (T27.setTop (mkF m 81 #[.val (.int p1), .val (.int p2), .val (.int p3), .val (.int p4), .val (.ref a1), .val (.ref a27), .unset, .unset, .unset] [(.int (0 : Int32)), (.ref a27)])) _
    refine XS.aload X27.here hx rfl (hb hby at_81) rfl rfl ?_
    show Steps p.tables e below (T27.setTop (mkF m 83 #[.val (.int p1), .val (.int p2), .val (.int p3), .val (.int p4), .val (.ref a1), .val (.ref a27), .unset, .unset, .unset] [(.ref a1), (.int (0 : Int32)), (.ref a27)])) _
    refine XS.iconst X27.here hx rfl (hb hby at_83) ?_
    show Steps p.tables e below (T27.setTop (mkF m 84 #[.val (.int p1), .val (.int p2), .val (.int p3), .val (.int p4), .val (.ref a1), .val (.ref a27), .unset, .unset, .unset] [(.int (0 : Int32)), (.ref a1), (.int (0 : Int32)), (.ref a27)])) _
    refine X27.iaload hx (j := (0 : Int32)) (v := (.int v0)) (by rw [e27]; exact Ar31.1) (State.isArrayOf_alike hZ.alike Ar31.2.1) Ar31.2.2 (own_hin S31 hi32) ha32 (g := (mkF m 84 #[.val (.int p1), .val (.int p2), .val (.int p3), .val (.int p4), .val (.ref a1), .val (.ref a27), .unset, .unset, .unset] [(.int (0 : Int32)), (.ref a1), (.int (0 : Int32)), (.ref a27)])) rfl rfl (hb hby at_84) _ ?_
    show Steps p.tables e below (T27.setTop (mkF m 85 #[.val (.int p1), .val (.int p2), .val (.int p3), .val (.int p4), .val (.ref a1), .val (.ref a27), .unset, .unset, .unset] [(.int v0), (.int (0 : Int32)), (.ref a27)])) _
    refine XS.i2b X27.here hx rfl (hb hby at_85) rfl ?_
    show Steps p.tables e below (T27.setTop (mkF m 86 #[.val (.int p1), .val (.int p2), .val (.int p3), .val (.int p4), .val (.ref a1), .val (.ref a27), .unset, .unset, .unset] [(.int (v0.toInt8.toInt32)), (.int (0 : Int32)), (.ref a27)])) _
    refine st34 _ ?_
    show Steps p.tables e below (T34.setTop (mkF m 87 #[.val (.int p1), .val (.int p2), .val (.int p3), .val (.int p4), .val (.ref a1), .val (.ref a27), .unset, .unset, .unset] [])) _
    refine XS.aload X34.here hx rfl (hb hby at_87) rfl rfl ?_
    show Steps p.tables e below (T34.setTop (mkF m 89 #[.val (.int p1), .val (.int p2), .val (.int p3), .val (.int p4), .val (.ref a1), .val (.ref a27), .unset, .unset, .unset] [(.ref a27)])) _
    refine XS.iconst X34.here hx rfl (hb hby at_89) ?_
    show Steps p.tables e below (T34.setTop (mkF m 90 #[.val (.int p1), .val (.int p2), .val (.int p3), .val (.int p4), .val (.ref a1), .val (.ref a27), .unset, .unset, .unset] [(.int (1 : Int32)), (.ref a27)])) _
    refine XS.aload X34.here hx rfl (hb hby at_90) rfl rfl ?_
    show Steps p.tables e below (T34.setTop (mkF m 92 #[.val (.int p1), .val (.int p2), .val (.int p3), .val (.int p4), .val (.ref a1), .val (.ref a27), .unset, .unset, .unset] [(.ref a1), (.int (1 : Int32)), (.ref a27)])) _
    refine XS.iconst X34.here hx rfl (hb hby at_92) ?_
    show Steps p.tables e below (T34.setTop (mkF m 93 #[.val (.int p1), .val (.int p2), .val (.int p3), .val (.int p4), .val (.ref a1), .val (.ref a27), .unset, .unset, .unset] [(.int (1 : Int32)), (.ref a1), (.int (1 : Int32)), (.ref a27)])) _
    refine X34.iaload hx (j := (1 : Int32)) (v := (.int v1)) (by rw [e34]; exact Ar39.1) (State.isArrayOf_alike hZ.alike Ar39.2.1) Ar39.2.2 (own_hin S39 hi40) ha40 (g := (mkF m 93 #[.val (.int p1), .val (.int p2), .val (.int p3), .val (.int p4), .val (.ref a1), .val (.ref a27), .unset, .unset, .unset] [(.int (1 : Int32)), (.ref a1), (.int (1 : Int32)), (.ref a27)])) rfl rfl (hb hby at_93) _ ?_
    show Steps p.tables e below (T34.setTop (mkF m 94 #[.val (.int p1), .val (.int p2), .val (.int p3), .val (.int p4), .val (.ref a1), .val (.ref a27), .unset, .unset, .unset] [(.int v1), (.int (1 : Int32)), (.ref a27)])) _
    refine XS.i2b X34.here hx rfl (hb hby at_94) rfl ?_
    show Steps p.tables e below (T34.setTop (mkF m 95 #[.val (.int p1), .val (.int p2), .val (.int p3), .val (.int p4), .val (.ref a1), .val (.ref a27), .unset, .unset, .unset] [(.int (v1.toInt8.toInt32)), (.int (1 : Int32)), (.ref a27)])) _
    refine st42 _ ?_
    show Steps p.tables e below (T42.setTop (mkF m 96 #[.val (.int p1), .val (.int p2), .val (.int p3), .val (.int p4), .val (.ref a1), .val (.ref a27), .unset, .unset, .unset] [])) _
    refine XS.aload X42.here hx rfl (hb hby at_96) rfl rfl ?_
    show Steps p.tables e below (T42.setTop (mkF m 98 #[.val (.int p1), .val (.int p2), .val (.int p3), .val (.int p4), .val (.ref a1), .val (.ref a27), .unset, .unset, .unset] [(.ref a27)])) _
    refine XS.iconst X42.here hx rfl (hb hby at_98) ?_
    show Steps p.tables e below (T42.setTop (mkF m 99 #[.val (.int p1), .val (.int p2), .val (.int p3), .val (.int p4), .val (.ref a1), .val (.ref a27), .unset, .unset, .unset] [(.int (2 : Int32)), (.ref a27)])) _
    refine XS.aload X42.here hx rfl (hb hby at_99) rfl rfl ?_
    show Steps p.tables e below (T42.setTop (mkF m 101 #[.val (.int p1), .val (.int p2), .val (.int p3), .val (.int p4), .val (.ref a1), .val (.ref a27), .unset, .unset, .unset] [(.ref a1), (.int (2 : Int32)), (.ref a27)])) _
    refine XS.iconst X42.here hx rfl (hb hby at_101) ?_
    show Steps p.tables e below (T42.setTop (mkF m 102 #[.val (.int p1), .val (.int p2), .val (.int p3), .val (.int p4), .val (.ref a1), .val (.ref a27), .unset, .unset, .unset] [(.int (2 : Int32)), (.ref a1), (.int (2 : Int32)), (.ref a27)])) _
    refine X42.iaload hx (j := (2 : Int32)) (v := (.int v2)) (by rw [e42]; exact Ar47.1) (State.isArrayOf_alike hZ.alike Ar47.2.1) Ar47.2.2 (own_hin S47 hi48) ha48 (g := (mkF m 102 #[.val (.int p1), .val (.int p2), .val (.int p3), .val (.int p4), .val (.ref a1), .val (.ref a27), .unset, .unset, .unset] [(.int (2 : Int32)), (.ref a1), (.int (2 : Int32)), (.ref a27)])) rfl rfl (hb hby at_102) _ ?_
    show Steps p.tables e below (T42.setTop (mkF m 103 #[.val (.int p1), .val (.int p2), .val (.int p3), .val (.int p4), .val (.ref a1), .val (.ref a27), .unset, .unset, .unset] [(.int v2), (.int (2 : Int32)), (.ref a27)])) _
    refine XS.i2b X42.here hx rfl (hb hby at_103) rfl ?_
    show Steps p.tables e below (T42.setTop (mkF m 104 #[.val (.int p1), .val (.int p2), .val (.int p3), .val (.int p4), .val (.ref a1), .val (.ref a27), .unset, .unset, .unset] [(.int (v2.toInt8.toInt32)), (.int (2 : Int32)), (.ref a27)])) _
    refine st50 _ ?_
    show Steps p.tables e below (T50.setTop (mkF m 105 #[.val (.int p1), .val (.int p2), .val (.int p3), .val (.int p4), .val (.ref a1), .val (.ref a27), .unset, .unset, .unset] [])) _
    refine XS.aload X50.here hx rfl (hb hby at_105) rfl rfl ?_
    show Steps p.tables e below (T50.setTop (mkF m 107 #[.val (.int p1), .val (.int p2), .val (.int p3), .val (.int p4), .val (.ref a1), .val (.ref a27), .unset, .unset, .unset] [(.ref a27)])) _
    refine XS.iconst X50.here hx rfl (hb hby at_107) ?_
    show Steps p.tables e below (T50.setTop (mkF m 108 #[.val (.int p1), .val (.int p2), .val (.int p3), .val (.int p4), .val (.ref a1), .val (.ref a27), .unset, .unset, .unset] [(.int (3 : Int32)), (.ref a27)])) _
    refine XS.aload X50.here hx rfl (hb hby at_108) rfl rfl ?_
    show Steps p.tables e below (T50.setTop (mkF m 110 #[.val (.int p1), .val (.int p2), .val (.int p3), .val (.int p4), .val (.ref a1), .val (.ref a27), .unset, .unset, .unset] [(.ref a1), (.int (3 : Int32)), (.ref a27)])) _
    refine XS.iconst X50.here hx rfl (hb hby at_110) ?_
    show Steps p.tables e below (T50.setTop (mkF m 111 #[.val (.int p1), .val (.int p2), .val (.int p3), .val (.int p4), .val (.ref a1), .val (.ref a27), .unset, .unset, .unset] [(.int (3 : Int32)), (.ref a1), (.int (3 : Int32)), (.ref a27)])) _
    refine X50.iaload hx (j := (3 : Int32)) (v := (.int v3)) (by rw [e50]; exact Ar55.1) (State.isArrayOf_alike hZ.alike Ar55.2.1) Ar55.2.2 (own_hin S55 hi56) ha56 (g := (mkF m 111 #[.val (.int p1), .val (.int p2), .val (.int p3), .val (.int p4), .val (.ref a1), .val (.ref a27), .unset, .unset, .unset] [(.int (3 : Int32)), (.ref a1), (.int (3 : Int32)), (.ref a27)])) rfl rfl (hb hby at_111) _ ?_
    show Steps p.tables e below (T50.setTop (mkF m 112 #[.val (.int p1), .val (.int p2), .val (.int p3), .val (.int p4), .val (.ref a1), .val (.ref a27), .unset, .unset, .unset] [(.int v3), (.int (3 : Int32)), (.ref a27)])) _
    refine XS.i2b X50.here hx rfl (hb hby at_112) rfl ?_
    show Steps p.tables e below (T50.setTop (mkF m 113 #[.val (.int p1), .val (.int p2), .val (.int p3), .val (.int p4), .val (.ref a1), .val (.ref a27), .unset, .unset, .unset] [(.int (v3.toInt8.toInt32)), (.int (3 : Int32)), (.ref a27)])) _
    refine st58 _ ?_
    show Steps p.tables e below (T58.setTop (mkF m 114 #[.val (.int p1), .val (.int p2), .val (.int p3), .val (.int p4), .val (.ref a1), .val (.ref a27), .unset, .unset, .unset] [])) _
    refine XS.aload X58.here hx rfl (hb hby at_114) rfl rfl ?_
    show Steps p.tables e below (T58.setTop (mkF m 116 #[.val (.int p1), .val (.int p2), .val (.int p3), .val (.int p4), .val (.ref a1), .val (.ref a27), .unset, .unset, .unset] [(.ref a27)])) _
    refine XS.iconst X58.here hx rfl (hb hby at_116) ?_
    show Steps p.tables e below (T58.setTop (mkF m 117 #[.val (.int p1), .val (.int p2), .val (.int p3), .val (.int p4), .val (.ref a1), .val (.ref a27), .unset, .unset, .unset] [(.int (4 : Int32)), (.ref a27)])) _
    refine XS.aload X58.here hx rfl (hb hby at_117) rfl rfl ?_
    show Steps p.tables e below (T58.setTop (mkF m 119 #[.val (.int p1), .val (.int p2), .val (.int p3), .val (.int p4), .val (.ref a1), .val (.ref a27), .unset, .unset, .unset] [(.ref a1), (.int (4 : Int32)), (.ref a27)])) _
    refine XS.iconst X58.here hx rfl (hb hby at_119) ?_
    show Steps p.tables e below (T58.setTop (mkF m 120 #[.val (.int p1), .val (.int p2), .val (.int p3), .val (.int p4), .val (.ref a1), .val (.ref a27), .unset, .unset, .unset] [(.int (4 : Int32)), (.ref a1), (.int (4 : Int32)), (.ref a27)])) _
    refine X58.iaload hx (j := (4 : Int32)) (v := (.int v4)) (by rw [e58]; exact Ar63.1) (State.isArrayOf_alike hZ.alike Ar63.2.1) Ar63.2.2 (own_hin S63 hi64) ha64 (g := (mkF m 120 #[.val (.int p1), .val (.int p2), .val (.int p3), .val (.int p4), .val (.ref a1), .val (.ref a27), .unset, .unset, .unset] [(.int (4 : Int32)), (.ref a1), (.int (4 : Int32)), (.ref a27)])) rfl rfl (hb hby at_120) _ ?_
    show Steps p.tables e below (T58.setTop (mkF m 121 #[.val (.int p1), .val (.int p2), .val (.int p3), .val (.int p4), .val (.ref a1), .val (.ref a27), .unset, .unset, .unset] [(.int v4), (.int (4 : Int32)), (.ref a27)])) _
    refine XS.i2b X58.here hx rfl (hb hby at_121) rfl ?_
    show Steps p.tables e below (T58.setTop (mkF m 122 #[.val (.int p1), .val (.int p2), .val (.int p3), .val (.int p4), .val (.ref a1), .val (.ref a27), .unset, .unset, .unset] [(.int (v4.toInt8.toInt32)), (.int (4 : Int32)), (.ref a27)])) _
    refine st66 _ ?_
    show Steps p.tables e below (T66.setTop (mkF m 123 #[.val (.int p1), .val (.int p2), .val (.int p3), .val (.int p4), .val (.ref a1), .val (.ref a27), .unset, .unset, .unset] [])) _
    refine XS.aload X66.here hx rfl (hb hby at_123) rfl rfl ?_
    show Steps p.tables e below (T66.setTop (mkF m 125 #[.val (.int p1), .val (.int p2), .val (.int p3), .val (.int p4), .val (.ref a1), .val (.ref a27), .unset, .unset, .unset] [(.ref a27)])) _
    refine XS.iconst X66.here hx rfl (hb hby at_125) ?_
    show Steps p.tables e below (T66.setTop (mkF m 126 #[.val (.int p1), .val (.int p2), .val (.int p3), .val (.int p4), .val (.ref a1), .val (.ref a27), .unset, .unset, .unset] [(.int (5 : Int32)), (.ref a27)])) _
    refine XS.aload X66.here hx rfl (hb hby at_126) rfl rfl ?_
    show Steps p.tables e below (T66.setTop (mkF m 128 #[.val (.int p1), .val (.int p2), .val (.int p3), .val (.int p4), .val (.ref a1), .val (.ref a27), .unset, .unset, .unset] [(.ref a1), (.int (5 : Int32)), (.ref a27)])) _
    refine XS.iconst X66.here hx rfl (hb hby at_128) ?_
    show Steps p.tables e below (T66.setTop (mkF m 129 #[.val (.int p1), .val (.int p2), .val (.int p3), .val (.int p4), .val (.ref a1), .val (.ref a27), .unset, .unset, .unset] [(.int (5 : Int32)), (.ref a1), (.int (5 : Int32)), (.ref a27)])) _
    refine X66.iaload hx (j := (5 : Int32)) (v := (.int v5)) (by rw [e66]; exact Ar71.1) (State.isArrayOf_alike hZ.alike Ar71.2.1) Ar71.2.2 (own_hin S71 hi72) ha72 (g := (mkF m 129 #[.val (.int p1), .val (.int p2), .val (.int p3), .val (.int p4), .val (.ref a1), .val (.ref a27), .unset, .unset, .unset] [(.int (5 : Int32)), (.ref a1), (.int (5 : Int32)), (.ref a27)])) rfl rfl (hb hby at_129) _ ?_
    show Steps p.tables e below (T66.setTop (mkF m 130 #[.val (.int p1), .val (.int p2), .val (.int p3), .val (.int p4), .val (.ref a1), .val (.ref a27), .unset, .unset, .unset] [(.int v5), (.int (5 : Int32)), (.ref a27)])) _
    refine XS.i2b X66.here hx rfl (hb hby at_130) rfl ?_
    show Steps p.tables e below (T66.setTop (mkF m 131 #[.val (.int p1), .val (.int p2), .val (.int p3), .val (.int p4), .val (.ref a1), .val (.ref a27), .unset, .unset, .unset] [(.int (v5.toInt8.toInt32)), (.int (5 : Int32)), (.ref a27)])) _
    refine st74 _ ?_
    show Steps p.tables e below (T74.setTop (mkF m 132 #[.val (.int p1), .val (.int p2), .val (.int p3), .val (.int p4), .val (.ref a1), .val (.ref a27), .unset, .unset, .unset] [])) _
    refine XS.iloadN X74.here hx rfl (hb hby at_132) rfl ?_
    show Steps p.tables e below (T74.setTop (mkF m 133 #[.val (.int p1), .val (.int p2), .val (.int p3), .val (.int p4), .val (.ref a1), .val (.ref a27), .unset, .unset, .unset] [(.int p3)])) _
    refine X74.ldcI hx hown (mvT hZ (hw _ (List.mem_of_getElem? (i := 2) rfl))) rfl (hb hby at_133) ?_
    show Steps p.tables e below (T74.setTop (mkF m 135 #[.val (.int p1), .val (.int p2), .val (.int p3), .val (.int p4), .val (.ref a1), .val (.ref a27), .unset, .unset, .unset] [(.int (2147483647 : Int32)), (.int p3)])) _
    refine XS.iand X74.here hx rfl (hb hby at_135) rfl ?_
    show Steps p.tables e below (T74.setTop (mkF m 136 #[.val (.int p1), .val (.int p2), .val (.int p3), .val (.int p4), .val (.ref a1), .val (.ref a27), .unset, .unset, .unset] [(.int (p3 &&& (2147483647 : Int32)))])) _
    refine XS.iconst X74.here hx rfl (hb hby at_136) ?_
    show Steps p.tables e below (T74.setTop (mkF m 137 #[.val (.int p1), .val (.int p2), .val (.int p3), .val (.int p4), .val (.ref a1), .val (.ref a27), .unset, .unset, .unset] [(.int (3 : Int32)), (.int (p3 &&& (2147483647 : Int32)))])) _
    refine iremM X74 hx rfl (hb hby at_137) rfl (by decide) ?_
    show Steps p.tables e below (T74.setTop (mkF m 138 #[.val (.int p1), .val (.int p2), .val (.int p3), .val (.int p4), .val (.ref a1), .val (.ref a27), .unset, .unset, .unset] [(.int ((p3 &&& (2147483647 : Int32)) % (3 : Int32)))])) _
    refine XS.istore X74.here hx rfl (hb hby at_138) rfl (l' := #[.val (.int p1), .val (.int p2), .val (.int p3), .val (.int p4), .val (.ref a1), .val (.ref a27), .val (.int ((p3 &&& (2147483647 : Int32)) % (3 : Int32))), .unset, .unset]) rfl ?_
    show Steps p.tables e below (T74.setTop (mkF m 140 #[.val (.int p1), .val (.int p2), .val (.int p3), .val (.int p4), .val (.ref a1), .val (.ref a27), .val (.int ((p3 &&& (2147483647 : Int32)) % (3 : Int32))), .unset, .unset] [])) _
    refine XS.iloadN X74.here hx rfl (hb hby at_140) rfl ?_
    show Steps p.tables e below (T74.setTop (mkF m 141 #[.val (.int p1), .val (.int p2), .val (.int p3), .val (.int p4), .val (.ref a1), .val (.ref a27), .val (.int ((p3 &&& (2147483647 : Int32)) % (3 : Int32))), .unset, .unset] [(.int p4)])) _
    refine X74.ldcI hx hown (mvT hZ (hw _ (List.mem_of_getElem? (i := 2) rfl))) rfl (hb hby at_141) ?_
    show Steps p.tables e below (T74.setTop (mkF m 143 #[.val (.int p1), .val (.int p2), .val (.int p3), .val (.int p4), .val (.ref a1), .val (.ref a27), .val (.int ((p3 &&& (2147483647 : Int32)) % (3 : Int32))), .unset, .unset] [(.int (2147483647 : Int32)), (.int p4)])) _
    refine XS.iand X74.here hx rfl (hb hby at_143) rfl ?_
    show Steps p.tables e below (T74.setTop (mkF m 144 #[.val (.int p1), .val (.int p2), .val (.int p3), .val (.int p4), .val (.ref a1), .val (.ref a27), .val (.int ((p3 &&& (2147483647 : Int32)) % (3 : Int32))), .unset, .unset] [(.int (p4 &&& (2147483647 : Int32)))])) _
    refine XS.iconst X74.here hx rfl (hb hby at_144) ?_
    show Steps p.tables e below (T74.setTop (mkF m 145 #[.val (.int p1), .val (.int p2), .val (.int p3), .val (.int p4), .val (.ref a1), .val (.ref a27), .val (.int ((p3 &&& (2147483647 : Int32)) % (3 : Int32))), .unset, .unset] [(.int (5 : Int32)), (.int (p4 &&& (2147483647 : Int32)))])) _
    refine iremM X74 hx rfl (hb hby at_145) rfl (by decide) ?_
    show Steps p.tables e below (T74.setTop (mkF m 146 #[.val (.int p1), .val (.int p2), .val (.int p3), .val (.int p4), .val (.ref a1), .val (.ref a27), .val (.int ((p3 &&& (2147483647 : Int32)) % (3 : Int32))), .unset, .unset] [(.int ((p4 &&& (2147483647 : Int32)) % (5 : Int32)))])) _
    refine XS.istore X74.here hx rfl (hb hby at_146) rfl (l' := #[.val (.int p1), .val (.int p2), .val (.int p3), .val (.int p4), .val (.ref a1), .val (.ref a27), .val (.int ((p3 &&& (2147483647 : Int32)) % (3 : Int32))), .val (.int ((p4 &&& (2147483647 : Int32)) % (5 : Int32))), .unset]) rfl ?_
    show Steps p.tables e below (T74.setTop (mkF m 148 #[.val (.int p1), .val (.int p2), .val (.int p3), .val (.int p4), .val (.ref a1), .val (.ref a27), .val (.int ((p3 &&& (2147483647 : Int32)) % (3 : Int32))), .val (.int ((p4 &&& (2147483647 : Int32)) % (5 : Int32))), .unset] [])) _
    exact k
  obtain ⟨nf, hnf⟩ : ∃ z : Int32, z = ((p3 &&& (2147483647 : Int32)) % (3 : Int32)) := ⟨_, rfl⟩
  rw [← hnf]
  obtain ⟨nl, hnl⟩ : ∃ z : Int32, z = ((p4 &&& (2147483647 : Int32)) % (5 : Int32)) := ⟨_, rfl⟩
  rw [← hnl]
  have qf : 0 ≤ nf.toInt ∧ nf.toInt ≤ 2 := by rw [hnf]; exact own_rem _ (by decide)
  have ql : 0 ≤ nl.toInt ∧ nl.toInt ≤ 4 := by rw [hnl]; exact own_rem _ (by decide)
  have qe : (nf + nl).toInt = nf.toInt + nl.toInt := Jvm.Kit.i32_add (by omega) (by omega)
  obtain ⟨cl79, Ar79, q79, S79, M79, H79, U79⟩ := id V77
  obtain ⟨_, _, ⟨T80, uL80, uk80, un80⟩, -, X80, ⟨Lc80, hQ80, ul80, uy80, uz80⟩, st80⟩ := Jvm.LawKit.callS X74 hx (y := (⟨"com/example/fieldbook/fieldbook/StrictTextIsUtf8PinLaw", "reference", "([III)Z"⟩ : MethodName)) hown (mvT hZ (hw _ (List.mem_of_getElem? (i := 3) rfl))) (mvT hZ (hw _ (List.mem_of_getElem? (i := 4) rfl))) (mvT hZ (hw _ (List.mem_of_getElem? (i := 5) rfl))) (mvT hZ (hw _ (List.mem_of_getElem? (i := 6) rfl))) (by decide) (backOf (W := 0) (rm3 l Z a0 hw [] a1 cl79 (fun i => ([v0, v1, v2, v3, v4, v5] : List Int32).getD i 0) (6 : Int32) nf (nf + nl) h74 n0 Z74 Ar79 S79 M79 (own_has (xs := ([v0, v1, v2, v3, v4, v5] : List Int32)) H79 S79) (by rw [qe]; show _ ≤ (6 : Int); omega)) hZ (hw _ (List.mem_of_getElem? (i := 6) rfl)) (hw _ (List.mem_of_getElem? (i := 5) rfl)) (by decide) (by decide)) (g := (mkF m 157 #[.val (.int p1), .val (.int p2), .val (.int p3), .val (.int p4), .val (.ref a1), .val (.ref a27), .val (.int nf), .val (.int nl), .unset] [(.int (nf + nl)), (.int nf), (.ref a1)])) rfl (by rw [hml]; rfl) (argsL := [(.ref a1), (.int nf), (.int (nf + nl))]) (rest := []) (lenOf pd__28_5bIII_29Z rfl) rfl (by show 2 * 0 + _ ≤ _; exact Nat.le_of_eq rfl) (hb hby at_157) (fun _ _ => ⟨rfl, e74, (by decide : 2 + 0 ≤ _), (by decide : 12 + 0 ≤ _)⟩)
  dsimp only [Pt.U, Pt.locs, Pt.cells, Pt.slots] at X80 ul80 uy80 uz80 st80 hQ80
  subst ul80 uy80 uz80
  obtain ⟨rfl, Nq80, e80⟩ := hQ80
  have N80 := Fr.app N74 Nq80
  obtain ⟨cl81, Ar81, q81, S81, M81, H81, U81⟩ := id V75
  obtain ⟨_, _, ⟨T82, uL82, uk82, un82⟩, -, X82, ⟨Lc82, hQ82, ul82, uy82, uz82⟩, st82⟩ := Jvm.LawKit.callS X80 hx (y := (⟨"com/example/fieldbook/fieldbook/StrictText", "isUtf8", "([BII)Z"⟩ : MethodName)) hown (mvT hZ (hw _ (List.mem_of_getElem? (i := 13) rfl))) (mvT hZ (hw _ (List.mem_of_getElem? (i := 14) rfl))) (mvT hZ (hw _ (List.mem_of_getElem? (i := 15) rfl))) (mvT hZ (hw _ (List.mem_of_getElem? (i := 16) rfl))) (by decide) (backOf (W := 0) (rm4 l Z a0 hw [] a27 cl81 (fun i => ([(v0.toInt8.toInt32), (v1.toInt8.toInt32), (v2.toInt8.toInt32), (v3.toInt8.toInt32), (v4.toInt8.toInt32), (v5.toInt8.toInt32)] : List Int32).getD i 0) (6 : Int32) nf nl h74 n0 Z74 Ar81 S81 M81 (own_has (xs := ([(v0.toInt8.toInt32), (v1.toInt8.toInt32), (v2.toInt8.toInt32), (v3.toInt8.toInt32), (v4.toInt8.toInt32), (v5.toInt8.toInt32)] : List Int32)) H81 S81) qf.1 (by rw [qe]; omega) (by rw [qe]; show _ ≤ (6 : Int); omega)) hZ (hw _ (List.mem_of_getElem? (i := 16) rfl)) (hw _ (List.mem_of_getElem? (i := 15) rfl)) (by decide) (by decide)) (g := (mkF m 168 #[.val (.int p1), .val (.int p2), .val (.int p3), .val (.int p4), .val (.ref a1), .val (.ref a27), .val (.int nf), .val (.int nl), .val (.int (own_ref_0 (fun i => ([v0, v1, v2, v3, v4, v5] : List Int32).getD i 0) nf (nf + nl)))] [(.int nl), (.int nf), (.ref a27)])) rfl (by rw [hml]; rfl) (argsL := [(.ref a27), (.int nf), (.int nl)]) (rest := []) (lenOf pd__28_5bBII_29Z rfl) rfl (by show 2 * 0 + _ ≤ _; exact Nat.le_of_eq rfl) (hb hby at_168) (fun _ _ => ⟨rfl, e80, (by decide : 2 + 0 ≤ _), (by decide : 12 + 0 ≤ _)⟩)
  dsimp only [Pt.U, Pt.locs, Pt.cells, Pt.slots] at X82 ul82 uy82 uz82 st82 hQ82
  subst ul82 uy82 uz82
  obtain ⟨rfl, Nq82, e82⟩ := hQ82
  have N82 := Fr.app N80 Nq82
  have hc173_83 : (own_u8_0 (fun i => ([(v0.toInt8.toInt32), (v1.toInt8.toInt32), (v2.toInt8.toInt32), (v3.toInt8.toInt32), (v4.toInt8.toInt32), (v5.toInt8.toInt32)] : List Int32).getD i 0) nf nl) = (own_ref_0 (fun i => ([v0, v1, v2, v3, v4, v5] : List Int32).getD i 0) nf (nf + nl)) := own_same _ _ _ _ _ _ _ _ b0 b1 b2 b3 b4 b5 qf ql
  refine own_end X82 Bd.notSynchronized (v := some (.int (1 : Int32))) (fun h => by rw [Bd.returns] at h; cases h) (fun fs hr => ?_) e82 ?_ (by decide) (by decide)
  · show Steps p.tables e below (T74.setTop (mkF m 148 #[.val (.int p1), .val (.int p2), .val (.int p3), .val (.int p4), .val (.ref a1), .val (.ref a27), .val (.int nf), .val (.int nl), .unset] [])) _
    refine XS.aload X74.here hx rfl (hb hby at_148) rfl rfl ?_
    show Steps p.tables e below (T74.setTop (mkF m 150 #[.val (.int p1), .val (.int p2), .val (.int p3), .val (.int p4), .val (.ref a1), .val (.ref a27), .val (.int nf), .val (.int nl), .unset] [(.ref a1)])) _
    refine XS.iload X74.here hx rfl (hb hby at_150) rfl ?_
    show Steps p.tables e below (T74.setTop (mkF m 152 #[.val (.int p1), .val (.int p2), .val (.int p3), .val (.int p4), .val (.ref a1), .val (.ref a27), .val (.int nf), .val (.int nl), .unset] [(.int nf), (.ref a1)])) _
    refine XS.iload X74.here hx rfl (hb hby at_152) rfl ?_
    show Steps p.tables e below (T74.setTop (mkF m 154 #[.val (.int p1), .val (.int p2), .val (.int p3), .val (.int p4), .val (.ref a1), .val (.ref a27), .val (.int nf), .val (.int nl), .unset] [(.int nf), (.int nf), (.ref a1)])) _
    refine XS.iload X74.here hx rfl (hb hby at_154) rfl ?_
    show Steps p.tables e below (T74.setTop (mkF m 156 #[.val (.int p1), .val (.int p2), .val (.int p3), .val (.int p4), .val (.ref a1), .val (.ref a27), .val (.int nf), .val (.int nl), .unset] [(.int nl), (.int nf), (.int nf), (.ref a1)])) _
    refine XS.iadd X74.here hx rfl (hb hby at_156) rfl ?_
    show Steps p.tables e below (T74.setTop (mkF m 157 #[.val (.int p1), .val (.int p2), .val (.int p3), .val (.int p4), .val (.ref a1), .val (.ref a27), .val (.int nf), .val (.int nl), .unset] [(.int (nf + nl)), (.int nf), (.ref a1)])) _
    refine st80 _ ?_
    show Steps p.tables e below (T80.setTop (mkF m 160 #[.val (.int p1), .val (.int p2), .val (.int p3), .val (.int p4), .val (.ref a1), .val (.ref a27), .val (.int nf), .val (.int nl), .unset] [(.int (own_ref_0 (fun i => ([v0, v1, v2, v3, v4, v5] : List Int32).getD i 0) nf (nf + nl)))])) _
    refine XS.istore X80.here hx rfl (hb hby at_160) rfl (l' := #[.val (.int p1), .val (.int p2), .val (.int p3), .val (.int p4), .val (.ref a1), .val (.ref a27), .val (.int nf), .val (.int nl), .val (.int (own_ref_0 (fun i => ([v0, v1, v2, v3, v4, v5] : List Int32).getD i 0) nf (nf + nl)))]) rfl ?_
    show Steps p.tables e below (T80.setTop (mkF m 162 #[.val (.int p1), .val (.int p2), .val (.int p3), .val (.int p4), .val (.ref a1), .val (.ref a27), .val (.int nf), .val (.int nl), .val (.int (own_ref_0 (fun i => ([v0, v1, v2, v3, v4, v5] : List Int32).getD i 0) nf (nf + nl)))] [])) _
    refine XS.aload X80.here hx rfl (hb hby at_162) rfl rfl ?_
    show Steps p.tables e below (T80.setTop (mkF m 164 #[.val (.int p1), .val (.int p2), .val (.int p3), .val (.int p4), .val (.ref a1), .val (.ref a27), .val (.int nf), .val (.int nl), .val (.int (own_ref_0 (fun i => ([v0, v1, v2, v3, v4, v5] : List Int32).getD i 0) nf (nf + nl)))] [(.ref a27)])) _
    refine XS.iload X80.here hx rfl (hb hby at_164) rfl ?_
    show Steps p.tables e below (T80.setTop (mkF m 166 #[.val (.int p1), .val (.int p2), .val (.int p3), .val (.int p4), .val (.ref a1), .val (.ref a27), .val (.int nf), .val (.int nl), .val (.int (own_ref_0 (fun i => ([v0, v1, v2, v3, v4, v5] : List Int32).getD i 0) nf (nf + nl)))] [(.int nf), (.ref a27)])) _
    refine XS.iload X80.here hx rfl (hb hby at_166) rfl ?_
    show Steps p.tables e below (T80.setTop (mkF m 168 #[.val (.int p1), .val (.int p2), .val (.int p3), .val (.int p4), .val (.ref a1), .val (.ref a27), .val (.int nf), .val (.int nl), .val (.int (own_ref_0 (fun i => ([v0, v1, v2, v3, v4, v5] : List Int32).getD i 0) nf (nf + nl)))] [(.int nl), (.int nf), (.ref a27)])) _
    refine st82 _ ?_
    show Steps p.tables e below (T82.setTop (mkF m 171 #[.val (.int p1), .val (.int p2), .val (.int p3), .val (.int p4), .val (.ref a1), .val (.ref a27), .val (.int nf), .val (.int nl), .val (.int (own_ref_0 (fun i => ([v0, v1, v2, v3, v4, v5] : List Int32).getD i 0) nf (nf + nl)))] [(.int (own_u8_0 (fun i => ([(v0.toInt8.toInt32), (v1.toInt8.toInt32), (v2.toInt8.toInt32), (v3.toInt8.toInt32), (v4.toInt8.toInt32), (v5.toInt8.toInt32)] : List Int32).getD i 0) nf nl))])) _
    refine XS.iload X82.here hx rfl (hb hby at_171) rfl ?_
    show Steps p.tables e below (T82.setTop (mkF m 173 #[.val (.int p1), .val (.int p2), .val (.int p3), .val (.int p4), .val (.ref a1), .val (.ref a27), .val (.int nf), .val (.int nl), .val (.int (own_ref_0 (fun i => ([v0, v1, v2, v3, v4, v5] : List Int32).getD i 0) nf (nf + nl)))] [(.int (own_ref_0 (fun i => ([v0, v1, v2, v3, v4, v5] : List Int32).getD i 0) nf (nf + nl))), (.int (own_u8_0 (fun i => ([(v0.toInt8.toInt32), (v1.toInt8.toInt32), (v2.toInt8.toInt32), (v3.toInt8.toInt32), (v4.toInt8.toInt32), (v5.toInt8.toInt32)] : List Int32).getD i 0) nf nl))])) _
    refine XS.icmpNo X82.here hx rfl (hb hby at_173) rfl (teq hc173_83).2 ?_
    show Steps p.tables e below (T82.setTop (mkF m 176 #[.val (.int p1), .val (.int p2), .val (.int p3), .val (.int p4), .val (.ref a1), .val (.ref a27), .val (.int nf), .val (.int nl), .val (.int (own_ref_0 (fun i => ([v0, v1, v2, v3, v4, v5] : List Int32).getD i 0) nf (nf + nl)))] [])) _
    refine XS.iconst X82.here hx rfl (hb hby at_176) ?_
    show Steps p.tables e below (T82.setTop (mkF m 177 #[.val (.int p1), .val (.int p2), .val (.int p3), .val (.int p4), .val (.ref a1), .val (.ref a27), .val (.int nf), .val (.int nl), .val (.int (own_ref_0 (fun i => ([v0, v1, v2, v3, v4, v5] : List Int32).getD i 0) nf (nf + nl)))] [(.int (1 : Int32))])) _
    refine XS.goto X82.here hx rfl (pc0 := 177) (pc' := 181) rfl (hb hby at_177) (by decide) (by decide) ?_
    show Steps p.tables e below (T82.setTop (mkF m 181 #[.val (.int p1), .val (.int p2), .val (.int p3), .val (.int p4), .val (.ref a1), .val (.ref a27), .val (.int nf), .val (.int nl), .val (.int (own_ref_0 (fun i => ([v0, v1, v2, v3, v4, v5] : List Int32).getD i 0) nf (nf + nl)))] [(.int (1 : Int32))])) _
    exact retN X82 hx (t := .boolean) Bd.returns (by simp) (hb hby at_181) hr
  · exact ⟨rfl, N82⟩
set_option maxRecDepth 65536 in
set_option maxHeartbeats 40000000 in
theorem comes_1 {Post : Tables → Env → Array Value → State → Outcome → State → Prop} (hpost : ∀ tb e args s v u, (limb_1_1.after args s (.returned v) u = true ∧ limb_1_2.after args s (.returned v) u = true ∧ True) → FrameEnd s (.returned v) u (Jvm.fieldLocs frame_1_writes args s ++ Jvm.arrayLocs frame_1_arrays args s ++ Jvm.staticLocs frame_1_statics s) 16 128 → Post tb e args s (.returned v) u) :
    ArmFor flags0 classFile x code maxLocals ret World_1 tables_1 room_1 Calls_1 rest_1 Pre_1 Post := by
  intro l hfl _ _ p e ha hc hk s m args below hf hA hF happ hP
  obtain ⟨hcalls, hrest, hpre⟩ := hP
  obtain ⟨-, -, -, hnamed, -, -, -, hat⟩ := (Spec.applies_iff hf).mp happ
  obtain ⟨hg, hn⟩ := and_e (Cond.before_iff.mp (show (Jvm.Cond.and given_1 narrow_1).before args s = true from hpre))
  obtain ⟨g0, r0⟩ := and_e hg
  obtain ⟨g1, r1⟩ := and_e r0
  obtain ⟨g2, r2⟩ := and_e r1
  obtain ⟨g3, r3⟩ := and_e r2
  obtain ⟨w0, w1, w2, w3, rfl⟩ : ∃ w0 w1 w2 w3 : Value, args = #[w0, w1, w2, w3] := by
    have hs : args.size = 4 := by simpa [Cond.value, given_1] using g0
    obtain ⟨L⟩ := args
    match L, hs with
    | [w0, w1, w2, w3], _ => exact ⟨w0, w1, w2, w3, rfl⟩
  have hw := fun d (hd : d ∈ tables_1) => atoms_spec (ws := Jvm.Cond.code x code maxLocals ret :: tables_1) hat d (List.mem_cons_of_mem _ hd)
  obtain ⟨i0, y0⟩ := is_v g1
  obtain rfl : w0 = (.int i0) := Option.some.inj y0
  obtain ⟨i1, y1⟩ := is_v g2
  obtain rfl : w1 = (.int i1) := Option.some.inj y1
  obtain ⟨i2, y2⟩ := is_v g3
  obtain rfl : w2 = (.int i2) := Option.some.inj y2
  obtain ⟨i3, y3⟩ := is_v r3
  obtain rfl : w3 = (.int i3) := Option.some.inj y3
  obtain ⟨n, o, h1, h2, h3, _, L, rfl, ⟨rfl, N⟩, hq⟩ := rm0 l s _ hw tables_1 i0 i1 i2 i3 s.heap s.heap.size (Nat.le_refl _) p e ha hc hk s m _ below hf ((Spec.applies_iff_loose hf).mp happ).1 ⟨rfl, State.Warmed39.refl s, rfl⟩ trivial
  refine ⟨n, _, h1, h2, h3, hpost _ _ _ _ _ _ ⟨Cond.after_iff.mpr rfl, Cond.after_iff.mpr (eq_i res_at (Term.int_eval (1)) rfl), trivial⟩ ⟨hq.1, hq.2.1, (hq.2.2.sift fun y hy => Or.inr (N y hy)).mono (by decide) (by decide)⟩⟩
theorem main_1_1 : Claimed_1_1 := comes_1 fun _ _ _ _ _ _ h hF => ⟨h.1, hF⟩
theorem main_1_2 : Claimed_1_2 := comes_1 fun _ _ _ _ _ _ h hF => ⟨h.2.1, hF⟩
end Jvm.Pilot.@@N@@
namespace Jvm.Pilot.@@N@@
open Jvm Jvm.ClassFile Sem Op Lib Jvm.Free Jvm.Stand Jvm.Pilot.@@N@@.Jvm.D
/-! MADE BY PROGRAM (witnessworld.py) out of the Statement's table words and the real class files: 9 classes; the members and pool entries that the words name. The judged class is class 1, her method 1. -/
namespace start1
open Jvm.ClassFile
def u (s : String) : CpInfo := .utf8 (stringToUtf16 s)
/-- a pool by its gaps: so many unusable entries, then the entry; so many at the end -/
def gap : Nat → List CpInfo → List CpInfo
  | 0, r => r
  | n + 1, r => .unusable :: gap n r
def poolList (es : List (Nat × CpInfo)) (last : Nat) : List CpInfo := es.foldr (fun e r => gap e.1 (e.2 :: r)) (gap last [])
def pool (es : List (Nat × CpInfo)) (last : Nat) : Array CpInfo := ⟨poolList es last⟩
def fileOf (pool : Array CpInfo) (this : Nat) (attrs : Array Attribute := #[]) (ms : Array MethodInfo := #[]) (fl : Nat := 33) (sup : Nat := 0) (ifs : Array Nat := #[]) (fds : Array FieldInfo := #[]) : ClassFile where
  minorVersion := 0
  majorVersion := 65
  constantPool := pool
  accessFlags := fl
  thisClass := this
  superClass := sup
  interfaces := ifs
  fields := fds
  methods := ms
  attributes := attrs
def plain (name : String) (sup : Option ClassId) : Class where
  name := name
  kind := .ordinary
  loader := none
  accessFlags := 33
  super := sup
  interfaces := #[]
  cf := none
  fields := #[]
  methods := #[]
  instanceTypes := #[]
  staticTypes := #[]
  resolved := #[]
  callSites := []
  init := .initialized
  statics := none
  mirror := none

def pool0 : Array CpInfo := pool [(5, u "<init>"), (0, u "()V"), (1, .class_ 10), (1, u "java/lang/Object")] 113

def k0m0 : Method := { name := "<init>", desc := "()V", sig := { parameters := [], returnType := none }, accessFlags := 1, code := none }
/-- java/lang/Object -/
def k0 : Class := { plain "java/lang/Object" none with
  accessFlags := 33
  interfaces := #[]
  cf := some (fileOf pool0 8 #[] #[{ accessFlags := 1, nameIndex := 5, descriptorIndex := 6, attributes := #[] }] 33 0 #[] #[])
  fields := #[]
  methods := #[k0m0]
  instanceTypes := #[]
  staticTypes := #[]
  resolved := Array.replicate 124 none
  statics := none }

def pool1 : Array CpInfo := pool [(2, .class_ 4), (1, u "java/lang/Object"), (0, u "<init>"), (0, u "()V"), (0, .integer 2147483647), (0, .methodref 9 10), (0, .class_ 11), (0, .nameAndType 12 13), (0, u "com/example/fieldbook/fieldbook/StrictTextIsUtf8PinLaw"), (0, u "reference"), (0, u "([III)Z"), (0, .methodref 15 16), (0, .class_ 17), (0, .nameAndType 18 19), (0, u "com/example/fieldbook/fieldbook/StrictText"), (0, u "isUtf8"), (0, u "([BII)Z"), (0, .methodref 9 21), (0, .nameAndType 22 23), (0, u "step"), (0, u "([III)I"), (0, .methodref 9 25), (0, .nameAndType 26 23), (0, u "charLen"), (0, .integer 65536), (0, .integer 1114111), (0, .integer 55296), (0, .integer 57343), (2, u "law"), (0, u "(IIII)Z")] 7

def k1m0 : Method := { name := "<init>", desc := "()V", sig := { parameters := [], returnType := none }, accessFlags := 2, code := none }
def k1c1 : Code := { maxStack := 4, maxLocals := 9, code := code, exceptionTable := #[], attributes := #[] }
def k1m1 : Method := { name := "law", desc := "(IIII)Z", sig := { parameters := [.int, .int, .int, .int], returnType := some .boolean }, accessFlags := 9, code := some k1c1 }
def k1c2 : Code := { maxStack := 3, maxLocals := 4, code := method_3_code, exceptionTable := #[], attributes := #[] }
def k1m2 : Method := { name := "reference", desc := "([III)Z", sig := { parameters := [(.array .int), .int, .int], returnType := some .boolean }, accessFlags := 10, code := some k1c2 }
def k1c3 : Code := { maxStack := 3, maxLocals := 4, code := method_4_code, exceptionTable := #[], attributes := #[] }
def k1m3 : Method := { name := "step", desc := "([III)I", sig := { parameters := [(.array .int), .int, .int], returnType := some .int }, accessFlags := 10, code := some k1c3 }
def k1c4 : Code := { maxStack := 4, maxLocals := 7, code := method_5_code, exceptionTable := #[], attributes := #[] }
def k1m4 : Method := { name := "charLen", desc := "([III)I", sig := { parameters := [(.array .int), .int, .int], returnType := some .int }, accessFlags := 10, code := some k1c4 }
/-- com/example/fieldbook/fieldbook/StrictTextIsUtf8PinLaw -/
def k1 : Class := { plain "com/example/fieldbook/fieldbook/StrictTextIsUtf8PinLaw" (some 0) with
  accessFlags := 49
  interfaces := #[]
  cf := some (fileOf pool1 9 #[] #[{ accessFlags := 2, nameIndex := 5, descriptorIndex := 6, attributes := #[] }, { accessFlags := 9, nameIndex := 33, descriptorIndex := 34, attributes := #[] }, { accessFlags := 10, nameIndex := 12, descriptorIndex := 13, attributes := #[] }, { accessFlags := 10, nameIndex := 22, descriptorIndex := 23, attributes := #[] }, { accessFlags := 10, nameIndex := 26, descriptorIndex := 23, attributes := #[] }] 49 2 #[] #[])
  fields := #[]
  methods := #[k1m0, k1m1, k1m2, k1m3, k1m4]
  instanceTypes := #[]
  staticTypes := #[]
  resolved := Array.replicate 42 none
  statics := none }

def pool2 : Array CpInfo := pool [(2, .class_ 4), (1, u "java/lang/Object"), (0, u "<init>"), (0, u "()V"), (7, .class_ 16), (1, u "com/example/fieldbook/fieldbook/StrictText"), (74, u "isUtf8"), (0, u "([BII)Z"), (8, u "BYTE_ORDER_MARK"), (0, u "[B"), (28, .class_ 132), (0, u "com/example/fieldbook/fieldbook/StrictText$Decoder"), (97, u "UTF_32"), (0, u "Ljava/util/Set;"), (27, .class_ 260), (0, u "com/example/fieldbook/fieldbook/StrictText$Encoder"), (0, .class_ 262), (0, u "com/example/fieldbook/fieldbook/StrictText$AsciiCheck")] 22

def k2m0 : Method := { name := "<init>", desc := "()V", sig := { parameters := [], returnType := none }, accessFlags := 2, code := none }
def k2c1 : Code := { maxStack := 3, maxLocals := 11, code := prog_212_method_12_code, exceptionTable := #[], attributes := #[] }
def k2m1 : Method := { name := "isUtf8", desc := "([BII)Z", sig := { parameters := [(.array .byte), .int, .int], returnType := some .boolean }, accessFlags := 8, code := some k2c1 }
/-- com/example/fieldbook/fieldbook/StrictText -/
def k2 : Class := { plain "com/example/fieldbook/fieldbook/StrictText" (some 0) with
  accessFlags := 49
  interfaces := #[]
  cf := some (fileOf pool2 14 #[.nestMembers #[259, 131, 261]] #[{ accessFlags := 2, nameIndex := 5, descriptorIndex := 6, attributes := #[] }, { accessFlags := 8, nameIndex := 91, descriptorIndex := 92, attributes := #[] }] 49 2 #[] #[{ accessFlags := 26, nameIndex := 101, descriptorIndex := 102, attributes := #[] }, { accessFlags := 26, nameIndex := 230, descriptorIndex := 231, attributes := #[] }])
  fields := #[{ name := "BYTE_ORDER_MARK", type := (.array .byte), accessFlags := 26, slot := 0, constantValue := 0 }, { name := "UTF_32", type := (.object "java/util/Set"), accessFlags := 26, slot := 1, constantValue := 0 }]
  methods := #[k2m0, k2m1]
  instanceTypes := #[]
  staticTypes := #[(.array .byte), (.object "java/util/Set")]
  resolved := Array.replicate 285 none
  statics := none }

def pool3 : Array CpInfo := pool [(1, u "java/lang/Cloneable"), (0, .class_ 1), (0, u "java/lang/Object"), (0, .class_ 3)] 3

/-- java/lang/Cloneable -/
def k3 : Class := { plain "java/lang/Cloneable" (some 0) with
  accessFlags := 1537
  interfaces := #[]
  cf := some (fileOf pool3 2 #[] #[] 1537 4 #[] #[])
  fields := #[]
  methods := #[]
  instanceTypes := #[]
  staticTypes := #[]
  resolved := Array.replicate 8 none
  statics := none }

def pool4 : Array CpInfo := pool [(1, u "java/io/Serializable"), (0, .class_ 1), (0, u "java/lang/Object"), (0, .class_ 3)] 3

/-- java/io/Serializable -/
def k4 : Class := { plain "java/io/Serializable" (some 0) with
  accessFlags := 1537
  interfaces := #[]
  cf := some (fileOf pool4 2 #[] #[] 1537 4 #[] #[])
  fields := #[]
  methods := #[]
  instanceTypes := #[]
  staticTypes := #[]
  resolved := Array.replicate 8 none
  statics := none }

/-- the primitive byte -/
def k5 : Class := { plain "byte" none with kind := .primitive 'B', accessFlags := 0x411 }
/-- [B -/
def k6 : Class := { plain "[B" (some 0) with kind := .array 5 .byte, interfaces := #[3, 4], accessFlags := 1041 }

/-- the primitive int -/
def k7 : Class := { plain "int" none with kind := .primitive 'I', accessFlags := 0x411 }
/-- [I -/
def k8 : Class := { plain "[I" (some 0) with kind := .array 7 .int, interfaces := #[3, 4], accessFlags := 1041 }

def heap : Heap := #[]
def classes : Array Class := #[k0, k1, k2, k3, k4, k5, k6, k7, k8]
def interned : List (Array UInt16 × Addr) := []
def slotsUsed : Nat := 0
def theMethod : MethodId := ⟨1, 1⟩
def args0 : Array Value := #[.int 5, .int 1, .int 2, .int 3]
def aboutOver (below : List Frame) : State where
  vm := { classes := classes, interned := interned.toArray }
  heap := heap
  slotsUsed := slotsUsed
  threads := #[{ frames := .invoking theMethod args0 :: below }]
def below0 : List Frame := [.native { method := ⟨0, 0⟩, args := #[] }]
def about1 : State := aboutOver below0
def p0 : Program := .bare "" "" ""
def e0 : Env := launch0.env 0 0 0
theorem w_frames : about1.frames = Frame.invoking theMethod args0 :: below0 := rfl
set_option maxRecDepth 65536 in
theorem w_args : argsFit about1.vm theMethod args0 = true := by decide +kernel
set_option maxRecDepth 65536 in
theorem w_heap : heapFits about1 = true := by decide +kernel
set_option maxRecDepth 65536 in
theorem w_runnable : about1.curStatus? = some .runnable := by decide +kernel
set_option maxRecDepth 65536 in
theorem w_alone : about1.alone = true := by decide +kernel
set_option maxRecDepth 65536 in
theorem w_named : about1.methodNamed? x = some theMethod := by decide +kernel
set_option maxRecDepth 65536 in
theorem w_hears : about1.hears theMethod below0 = true := by decide +kernel
set_option maxRecDepth 65536 in
theorem w_ripe : about1.ripe theMethod args0 below0 = true := by decide +kernel
theorem w_running : about1.status = .running := rfl
set_option maxRecDepth 65536 in
theorem w_room : about1.hasRoom e0.platform room_1 = true :=
  launch0.hasRoom_least _ room_1 (by decide +kernel) (by decide +kernel) (by decide +kernel) (by decide +kernel) (by decide +kernel) (by decide +kernel)
theorem allAtoms_all (ts : List Jvm.Cond) (a : Array Jvm.Value) (st : Jvm.State) : (allAtoms ts).before a st = ts.all (fun c => c.before a st) := by
  induction ts with
  | nil => rfl
  | cons c t ih =>
    show (Jvm.Cond.and c (allAtoms t)).before a st = _
    rw [Jvm.Cond.before_and, ih, List.all_cons]
def words1 : List Jvm.Cond := Jvm.Cond.code x code maxLocals ret :: tables_1
/-- a 'code' word, met by the world's own term for the bytes: nothing is compared byte by byte -/
theorem code_word {y : MethodName} {bytes : ByteArray} {mx : Nat} {rt : Option FieldType} {a : Array Value} {s : State} {m : MethodId} {meth : Method} {c : Code} (h1 : s.methodNamed? y = some m) (h2 : s.vm.method? m = some meth) (h3 : meth.code = some c) (h4 : c.code = bytes)
    (h5 : (c.maxLocals == mx && c.exceptionTable.isEmpty && decide (c.maxStack ≤ mostOperands) && decide (meth.sig.returnType = rt) && !meth.locks && decide (parseMethodDescriptor y.desc = some meth.sig)) = true) : (Jvm.Cond.code y bytes mx rt).before a s = true := by
  simp only [Bool.and_eq_true, beq_iff_eq, Bool.not_eq_true', decide_eq_true_eq] at h5
  obtain ⟨⟨⟨⟨⟨g1, g2⟩, g3⟩, g4⟩, g5⟩, g6⟩ := h5
  simp [Cond.before, Cond.holds, Cond.value, h1, h2, h3, h4, g1, g2, g3, g4, g5, g6]
def isCode : Jvm.Cond → Bool
  | .code _ _ _ _ => true
  | _ => false
theorem all_split {L : List Jvm.Cond} {P : Jvm.Cond → Bool} (h1 : L.all (fun c => isCode c || P c) = true) (h2 : ∀ c ∈ L.filter isCode, P c = true) : L.all P = true := by
  refine List.all_eq_true.mpr fun c hc => ?_
  have h := List.all_eq_true.mp h1 c hc
  rcases Bool.eq_false_or_eq_true (isCode c) with hi | hi
  · exact h2 c (List.mem_filter.mpr ⟨hc, hi⟩)
  · simpa [hi] using h
set_option maxRecDepth 65536 in
theorem w_c0 : (Jvm.Cond.code x code maxLocals ret).before args0 about1 = true := code_word (m := ⟨1, 1⟩) (meth := k1m1) (c := k1c1) (by decide +kernel) rfl rfl rfl (by decide +kernel)
set_option maxRecDepth 65536 in
theorem w_c1 : (Jvm.Cond.code ({ cls := "com/example/fieldbook/fieldbook/StrictTextIsUtf8PinLaw", name := "reference", desc := "([III)Z" } : Jvm.MethodName) method_3_code (4 : Nat) (Option.some Jvm.ClassFile.FieldType.boolean)).before args0 about1 = true := code_word (m := ⟨1, 2⟩) (meth := k1m2) (c := k1c2) (by decide +kernel) rfl rfl rfl (by decide +kernel)
set_option maxRecDepth 65536 in
theorem w_c2 : (Jvm.Cond.code ({ cls := "com/example/fieldbook/fieldbook/StrictTextIsUtf8PinLaw", name := "step", desc := "([III)I" } : Jvm.MethodName) method_4_code (4 : Nat) (Option.some Jvm.ClassFile.FieldType.int)).before args0 about1 = true := code_word (m := ⟨1, 3⟩) (meth := k1m3) (c := k1c3) (by decide +kernel) rfl rfl rfl (by decide +kernel)
set_option maxRecDepth 65536 in
theorem w_c3 : (Jvm.Cond.code ({ cls := "com/example/fieldbook/fieldbook/StrictTextIsUtf8PinLaw", name := "charLen", desc := "([III)I" } : Jvm.MethodName) method_5_code (7 : Nat) (Option.some Jvm.ClassFile.FieldType.int)).before args0 about1 = true := code_word (m := ⟨1, 4⟩) (meth := k1m4) (c := k1c4) (by decide +kernel) rfl rfl rfl (by decide +kernel)
set_option maxRecDepth 65536 in
theorem w_c4 : (Jvm.Cond.code ({ cls := "com/example/fieldbook/fieldbook/StrictText", name := "isUtf8", desc := "([BII)Z" } : Jvm.MethodName) prog_212_method_12_code (11 : Nat) (Option.some Jvm.ClassFile.FieldType.boolean)).before args0 about1 = true := code_word (m := ⟨2, 1⟩) (meth := k2m1) (c := k2c1) (by decide +kernel) rfl rfl rfl (by decide +kernel)
def codes1 : List Jvm.Cond := [Jvm.Cond.code x code maxLocals ret, Jvm.Cond.code ({ cls := "com/example/fieldbook/fieldbook/StrictTextIsUtf8PinLaw", name := "reference", desc := "([III)Z" } : Jvm.MethodName) method_3_code (4 : Nat) (Option.some Jvm.ClassFile.FieldType.boolean), Jvm.Cond.code ({ cls := "com/example/fieldbook/fieldbook/StrictTextIsUtf8PinLaw", name := "step", desc := "([III)I" } : Jvm.MethodName) method_4_code (4 : Nat) (Option.some Jvm.ClassFile.FieldType.int), Jvm.Cond.code ({ cls := "com/example/fieldbook/fieldbook/StrictTextIsUtf8PinLaw", name := "charLen", desc := "([III)I" } : Jvm.MethodName) method_5_code (7 : Nat) (Option.some Jvm.ClassFile.FieldType.int), Jvm.Cond.code ({ cls := "com/example/fieldbook/fieldbook/StrictText", name := "isUtf8", desc := "([BII)Z" } : Jvm.MethodName) prog_212_method_12_code (11 : Nat) (Option.some Jvm.ClassFile.FieldType.boolean)]
set_option maxRecDepth 65536 in
theorem codes_eq : words1.filter isCode = codes1 := rfl
theorem w_codes : ∀ c ∈ words1.filter isCode, c.before args0 about1 = true := by
  rw [codes_eq]
  intro c hc
  simp only [codes1, List.mem_cons, List.not_mem_nil, or_false] at hc
  rcases hc with rfl | rfl | rfl | rfl | rfl
  · exact w_c0
  · exact w_c1
  · exact w_c2
  · exact w_c3
  · exact w_c4
set_option maxRecDepth 65536 in
theorem w_t1 : words1.all (fun c => isCode c || c.before args0 about1) = true := by decide +kernel
theorem w_tables : (allAtoms (Jvm.Cond.code x code maxLocals ret :: tables_1)).before args0 about1 = true := by
  rw [allAtoms_all]
  show words1.all (fun c => c.before args0 about1) = true
  refine all_split ?_ w_codes
  rw [w_t1]
set_option maxRecDepth 65536 in
theorem w_case : (Jvm.Cond.and given_1 narrow_1).before args0 about1 = true := by decide +kernel
theorem w_applies : (headSpec (Jvm.Cond.code x code maxLocals ret :: tables_1) room_1).applies x e0.platform about1 = true :=
  (Spec.applies_iff w_frames).mpr ⟨w_running, w_runnable, w_alone, w_named, w_hears, w_ripe, w_room, w_tables⟩
theorem atStart : AtStart classFile x code maxLocals ret World_1 tables_1 room_1 Calls_1 rest_1 Pre_1 launch0 p0 e0 about1 theMethod args0 below0 :=
  ⟨lists_1, trivial, launch0.admits_env _ _ _, launch0.least_env, fairChoices_fair.cas, fairChoices_fair.clock, w_frames, w_args, w_heap, w_applies, trivial, trivial, w_case⟩
end start1
theorem witness_1 : WitnessClaimed_1 := ⟨start1.p0, start1.e0, start1.about1, start1.theMethod, start1.args0, start1.below0, start1.atStart⟩
end Jvm.Pilot.@@N@@
