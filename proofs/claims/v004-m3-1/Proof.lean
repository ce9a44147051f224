import JvmDerived
import JvmDerived.Pilot.@@N@@Statement
import JvmDerived.Pilot.@@N@@Code
set_option linter.unusedVariables false
set_option linter.unusedSimpArgs false
namespace Jvm.RoadKit
open Sem ClassFile Op Lib Jvm.Stand Jvm.Free Jvm.LawKit
section New
variable {p : Program} {l : Launch} {e : Env} {R : Room} {s : State} {m : MethodId} {args : Array Value} {below : List Frame} {meth : Method} {c : Code} {T : State} {locs : List Loc} {cells slots : Nat}
theorem retI (X : Stand p l e R s m args below meth c T locs cells slots) (hx : p.tables.exec = Jvm.exec) {pc : Nat} {Ls : Array Slot} {z : Int32} {rest : List Value} (hret : meth.sig.returnType = some .int) (hd : decode c.code pc = .ok (.ireturn, 1)) {fs : List Frame}
    (hl : ∀ (f : JFrame) (acts : List Action), f.method = m → f.locked = none → f.entered = [] → (doReturn e (T.setTop f) acts (some (.int z))).1 = T.setFrames fs) : Steps p.tables e below (T.setTop (mkF m pc Ls (.int z :: rest))) (T.setFrames fs) := by
  have hm' : T.vm.method? m = some meth := X.method'
  have hn : narrow .int (.int z) = .int z := rfl
  show Steps p.tables e below (T.setTop { method := m, pc := pc, locals := Ls, stack := _ :: rest, locked := none }) _
  jvm_step X.here [X.here.top, hx, hd, hm', hret, hn]
  first | (intro acts; rw [hl _ acts rfl rfl rfl]) | rw [hl _ _ rfl rfl rfl]
  exact Steps.refl _
theorem retJ (X : Stand p l e R s m args below meth c T locs cells slots) (hx : p.tables.exec = Jvm.exec) {pc : Nat} {Ls : Array Slot} {z : Int64} {rest : List Value} (hret : meth.sig.returnType = some .long) (hd : decode c.code pc = .ok (.lreturn, 1)) {fs : List Frame}
    (hl : ∀ (f : JFrame) (acts : List Action), f.method = m → f.locked = none → f.entered = [] → (doReturn e (T.setTop f) acts (some (.long z))).1 = T.setFrames fs) : Steps p.tables e below (T.setTop (mkF m pc Ls (.long z :: rest))) (T.setFrames fs) := by
  have hm' : T.vm.method? m = some meth := X.method'
  show Steps p.tables e below (T.setTop { method := m, pc := pc, locals := Ls, stack := _ :: rest, locked := none }) _
  jvm_step X.here [X.here.top, hx, hd, hm', hret, narrow]
  first | (intro acts; rw [hl _ acts rfl rfl rfl]) | rw [hl _ _ rfl rfl rfl]
  exact Steps.refl _
theorem retA (X : Stand p l e R s m args below meth c T locs cells slots) (hx : p.tables.exec = Jvm.exec) {pc : Nat} {Ls : Array Slot} {z : Value} {t : FieldType} {rest : List Value} (hret : meth.sig.returnType = some t) (ht : t.isReference = true) (hz : z.isRef = true) (hd : decode c.code pc = .ok (.areturn, 1)) {fs : List Frame}
    (hl : ∀ (f : JFrame) (acts : List Action), f.method = m → f.locked = none → f.entered = [] → (doReturn e (T.setTop f) acts (some z)).1 = T.setFrames fs) : Steps p.tables e below (T.setTop (mkF m pc Ls (z :: rest))) (T.setFrames fs) := by
  have hm' : T.vm.method? m = some meth := X.method'
  show Steps p.tables e below (T.setTop { method := m, pc := pc, locals := Ls, stack := _ :: rest, locked := none }) _
  jvm_step X.here [X.here.top, hx, hd, hm', hret, hz, ht]
  first | (intro acts; rw [hl _ acts rfl rfl rfl]) | rw [hl _ _ rfl rfl rfl]
  exact Steps.refl _
/-- what a body's contract owes from a state on -/
def Owe (p : Program) (e : Env) (below : List Frame) (first : State) (ck sk : Nat) (Q : Option Value → Heap → List Loc → Prop) (T : State) (g : JFrame) : Prop :=
  ∃ s₂ o, Steps p.tables e below (T.setTop g) s₂ ∧ s₂.status = .running ∧ Ended s₂ below o ∧ ∃ v L, o = .returned v ∧ Q v s₂.heap L ∧ FrameEnd first o s₂ L ck sk
theorem Owe.step {first : State} {ck sk : Nat} {Q : Option Value → Heap → List Loc → Prop} {T T' : State} {g g' : JFrame} (h : ∀ t, Steps p.tables e below (T'.setTop g') t → Steps p.tables e below (T.setTop g) t)
    (k : Owe p e below first ck sk Q T' g') : Owe p e below first ck sk Q T g := by
  obtain ⟨s₂, o, h1, h2⟩ := k
  exact ⟨s₂, o, h _ h1, h2⟩
theorem Owe.ret {ck sk : Nat} {Q : Option Value → Heap → List Loc → Prop} {g : JFrame} (X : Stand p l e R s m args below meth c T locs cells slots) (hlk : meth.locks = false) {v : Option Value} (hv : meth.sig.returnType = none → v = none)
    (hst : ∀ fs, (∀ (f : JFrame) (acts : List Action), f.method = m → f.locked = none → f.entered = [] → (doReturn e (T.setTop f) acts v).1 = T.setFrames fs) → Steps p.tables e below (T.setTop g) (T.setFrames fs))
    (hQ : Q v T.heap locs) (hc : cells ≤ ck) (hs : slots ≤ sk) : Owe p e below s ck sk Q T g := by
  obtain ⟨fs, hr, hrun, hended, hW, hsame⟩ := X.leave (v := v) hv hlk
  exact ⟨_, _, hst fs hr, hrun, hended, _, _, rfl, hQ, ⟨_, rfl⟩, hW, hsame.mono hc hs⟩
/-- a body that writes nothing and makes nothing: it returns w -/
def QP (w : Value) (h0 : Heap) (n0 : Nat) (v : Option Value) (h : Heap) (L : List Loc) : Prop := v = some w ∧ Fr n0 L ∧ h = h0
/-- .. and returns nothing -/
def QN (h0 : Heap) (n0 : Nat) (v : Option Value) (h : Heap) (L : List Loc) : Prop := v = none ∧ Fr n0 L ∧ h = h0
/-- the law itself -/
def QL (w : Value) (n0 : Nat) (v : Option Value) (h : Heap) (L : List Loc) : Prop := v = some w ∧ Fr n0 L
theorem Owe.cast {first : State} {ck sk n0 : Nat} {w w' : Int32} {g : JFrame} (q : w' = w) (k : Owe p e below first ck sk (QL (.int w') n0) T g) : Owe p e below first ck sk (QL (.int w) n0) T g := q ▸ k
end New
end Jvm.RoadKit
namespace Jvm.Pilot.@@N@@
open Jvm Jvm.ClassFile Sem Op Lib Jvm.Free Jvm.Stand Jvm.LawKit Jvm.RoadKit Bundle Jvm.Pilot.@@N@@.Jvm.D
theorem own_irem (x y : Int32) : x - (x / y) * y = x % y := by
  apply Int32.toInt_inj.mp
  have h1 := Int32.le_toInt (x % y)
  have h2 := Int32.toInt_lt (x % y)
  rw [Int32.toInt_sub, Int32.toInt_mul, Int32.toInt_div, Int.bmod_mul_bmod, Int.sub_bmod_bmod, Int.mul_comm (x.toInt.tdiv y.toInt), ← Int.tmod_def, ← Int32.toInt_mod]
  exact Int.bmod_eq_of_le_mul_two (by omega) (by omega)
/-- an index, told by its int -/
theorem own_ix {j : Int32} {n : Nat} (h0 : 0 ≤ j.toInt) (h1 : j.toInt < (n : Int)) : ¬ j < 0 ∧ j.toNatClampNeg < n := by
  rw [Int32.lt_iff_toInt_lt]
  have e0 : (0 : Int32).toInt = 0 := rfl
  have e1 : j.toNatClampNeg = j.toInt.toNat := rfl
  rw [e0, e1]; omega
theorem own_d1_0 : decode method_2_code 0 = .ok (.iload_n 0, 1) := by decide +kernel
theorem own_d1_1 : decode method_2_code 1 = .ok (.ifCond .ne 7, 3) := by decide +kernel
theorem own_d1_4 : decode method_2_code 4 = .ok (.getstatic 7, 3) := by decide +kernel
theorem own_d1_7 : decode method_2_code 7 = .ok (.areturn, 1) := by decide +kernel
theorem own_d1_8 : decode method_2_code 8 = .ok (.iload_n 0, 1) := by decide +kernel
theorem own_d1_9 : decode method_2_code 9 = .ok (.iconst 1, 1) := by decide +kernel
theorem own_d1_10 : decode method_2_code 10 = .ok (.if_icmp .ne 7, 3) := by decide +kernel
theorem own_d1_13 : decode method_2_code 13 = .ok (.getstatic 13, 3) := by decide +kernel
theorem own_d1_16 : decode method_2_code 16 = .ok (.areturn, 1) := by decide +kernel
theorem own_d1_17 : decode method_2_code 17 = .ok (.iload_n 0, 1) := by decide +kernel
theorem own_d1_18 : decode method_2_code 18 = .ok (.iconst 2, 1) := by decide +kernel
theorem own_d1_19 : decode method_2_code 19 = .ok (.if_icmp .ne 7, 3) := by decide +kernel
theorem own_d1_22 : decode method_2_code 22 = .ok (.getstatic 16, 3) := by decide +kernel
theorem own_d1_25 : decode method_2_code 25 = .ok (.areturn, 1) := by decide +kernel
theorem own_d1_26 : decode method_2_code 26 = .ok (.iload_n 0, 1) := by decide +kernel
theorem own_d1_27 : decode method_2_code 27 = .ok (.iconst 3, 1) := by decide +kernel
theorem own_d1_28 : decode method_2_code 28 = .ok (.if_icmp .ne 7, 3) := by decide +kernel
theorem own_d1_31 : decode method_2_code 31 = .ok (.getstatic 19, 3) := by decide +kernel
theorem own_d1_34 : decode method_2_code 34 = .ok (.areturn, 1) := by decide +kernel
theorem own_d1_35 : decode method_2_code 35 = .ok (.iload_n 0, 1) := by decide +kernel
theorem own_d1_36 : decode method_2_code 36 = .ok (.iconst 4, 1) := by decide +kernel
theorem own_d1_37 : decode method_2_code 37 = .ok (.if_icmp .ne 7, 3) := by decide +kernel
theorem own_d1_40 : decode method_2_code 40 = .ok (.getstatic 22, 3) := by decide +kernel
theorem own_d1_43 : decode method_2_code 43 = .ok (.areturn, 1) := by decide +kernel
theorem own_d1_44 : decode method_2_code 44 = .ok (.getstatic 25, 3) := by decide +kernel
theorem own_d1_47 : decode method_2_code 47 = .ok (.areturn, 1) := by decide +kernel
theorem own_pn0 : plainName "com/example/rasterline/rasterline/cli/ExitStatusMaxPinLaw" = true := by first | (simp [plainName, overriddenIn]; done) | decide +kernel
theorem own_ef1 (m : MethodId) (p0 : Int32) : entryFrame m #[(.int p0)] 1 = mkF m 0 #[.val (.int p0)] [] := by first | (simp [entryFrame, mkF, argsToLocals, Value.category]; done) | rfl
def own_f1_0 (p0 : Int32) (w_SUCCESS : Addr) (w_USAGE : Addr) (w_IO_FAILURE : Addr) (w_UNRECOGNIZED : Addr) (w_DAMAGED : Addr) (w_UNSUPPORTED : Addr) : Addr := (if p0 = (0 : Int32) then w_SUCCESS else (if p0 = (1 : Int32) then w_USAGE else (if p0 = (2 : Int32) then w_IO_FAILURE else (if p0 = (3 : Int32) then w_UNRECOGNIZED else (if p0 = (4 : Int32) then w_DAMAGED else w_UNSUPPORTED)))))
set_option maxRecDepth 65536 in
set_option maxHeartbeats 40000000 in
theorem own_rm1 (l : Launch) (Z : State) (aA : Array Value) (hw : ∀ d ∈ tables_1, d.before aA Z = true) (ws : List Jvm.Cond) (p0 : Int32) (w_SUCCESS : Addr) (w_USAGE : Addr) (w_IO_FAILURE : Addr) (w_UNRECOGNIZED : Addr) (w_DAMAGED : Addr) (w_UNSUPPORTED : Addr) (h0 : Heap) (n0 : Nat) (Z0 : n0 ≤ h0.size) (S_SUCCESS : Sta Z h0 "com/example/rasterline/rasterline/cli/ExitStatus" "SUCCESS" "Lcom/example/rasterline/rasterline/cli/ExitStatus;" (.ref w_SUCCESS)) (S_USAGE : Sta Z h0 "com/example/rasterline/rasterline/cli/ExitStatus" "USAGE" "Lcom/example/rasterline/rasterline/cli/ExitStatus;" (.ref w_USAGE)) (S_IO_FAILURE : Sta Z h0 "com/example/rasterline/rasterline/cli/ExitStatus" "IO_FAILURE" "Lcom/example/rasterline/rasterline/cli/ExitStatus;" (.ref w_IO_FAILURE)) (S_UNRECOGNIZED : Sta Z h0 "com/example/rasterline/rasterline/cli/ExitStatus" "UNRECOGNIZED" "Lcom/example/rasterline/rasterline/cli/ExitStatus;" (.ref w_UNRECOGNIZED)) (S_DAMAGED : Sta Z h0 "com/example/rasterline/rasterline/cli/ExitStatus" "DAMAGED" "Lcom/example/rasterline/rasterline/cli/ExitStatus;" (.ref w_DAMAGED)) (S_UNSUPPORTED : Sta Z h0 "com/example/rasterline/rasterline/cli/ExitStatus" "UNSUPPORTED" "Lcom/example/rasterline/rasterline/cli/ExitStatus;" (.ref w_UNSUPPORTED)) :
    MetFree l (⟨"com/example/rasterline/rasterline/cli/ExitStatusMaxPinLaw", "pick", "(I)Lcom/example/rasterline/rasterline/cli/ExitStatus;"⟩ : MethodName) (head1 (Jvm.Cond.code (⟨"com/example/rasterline/rasterline/cli/ExitStatusMaxPinLaw", "pick", "(I)Lcom/example/rasterline/rasterline/cli/ExitStatus;"⟩ : MethodName) method_2_code 1 (some (.object "com/example/rasterline/rasterline/cli/ExitStatus")) :: ws) ({ frames := 0, cells := 0, slots := 0, locals := 0 } : Room)) (fun a U => a = #[(.int p0)] ∧ Z.Warmed39 U.vm ∧ U.heap = h0) (fun _ _ _ _ _ => True) (fun _ U o U' => ∃ v L, o = .returned v ∧ (QP (.ref (own_f1_0 p0 w_SUCCESS w_USAGE w_IO_FAILURE w_UNRECOGNIZED w_DAMAGED w_UNSUPPORTED)) h0 n0) v U'.heap L ∧ FrameEnd U o U' L ({ frames := 0, cells := 0, slots := 0, locals := 0 } : Room).cells ({ frames := 0, cells := 0, slots := 0, locals := 0 } : Room).slots) := by
  refine MetFree.of_bodySF (plainFor_of_name own_pn0) hisR ?_
  intro p e s m args below meth c s₁ Bd hml0 hP hK
  obtain ⟨rfl, hZ, hh⟩ := hP
  have hx := Bd.exec
  have hby := Bd.bytes
  have hml : c.maxLocals = 1 := hml0
  have hown : s.vm.findClass "com/example/rasterline/rasterline/cli/ExitStatusMaxPinLaw" = some m.cls := findClass_of_methodNamed Bd.named
  have hnm := (name_of_methodNamed Bd.named Bd.method).1
  have X0 : Stand p l e ({ frames := 0, cells := 0, slots := 0, locals := 0 } : Room) s m #[(.int p0)] below meth c s₁ [] 0 0 := Stand.of_body Bd
  have e0 : s₁.heap = h0 := by rw [← hh, Bd.state]; rfl
  have N0 := Fr.nil n0
  refine Owe.step (T := s₁) (T' := s₁) (g' := (mkF m 0 #[.val (.int p0)] [])) (fun t k => castTop (own_ef1 m p0) k) ?_
  refine Owe.step (T' := s₁) (g' := (mkF m 1 #[.val (.int p0)] [(.int p0)])) (fun t k => ?_) ?_
  · show Steps p.tables e below (s₁.setTop (mkF m 0 #[.val (.int p0)] [])) t
    refine XS.iloadN X0.here hx rfl (hb hby own_d1_0) rfl ?_
    show Steps p.tables e below (s₁.setTop (mkF m 1 #[.val (.int p0)] [(.int p0)])) t
    exact k
  by_cases hc1 : p0 = (0 : Int32)
  · refine Owe.step (T' := s₁) (g' := (mkF m 4 #[.val (.int p0)] [])) (fun t k => ?_) ?_
    · show Steps p.tables e below (s₁.setTop (mkF m 1 #[.val (.int p0)] [(.int p0)])) t
      refine XS.ifNo X0.here hx rfl (hb hby own_d1_1) rfl ((if0 _ _).trans (teq hc1).2) ?_
      show Steps p.tables e below (s₁.setTop (mkF m 4 #[.val (.int p0)] [])) t
      exact k
    obtain ⟨T1, X1, e1, st1⟩ := getS2 X0 hx hZ hown (host := "") (Or.inl (hw _ (List.mem_of_getElem? (i := 5) rfl))) Via.refl e0 S_SUCCESS (g := (mkF m 4 #[.val (.int p0)] [])) rfl (hb hby own_d1_4)
    refine Owe.step (T' := T1) (g' := (mkF m 7 #[.val (.int p0)] [(.ref w_SUCCESS)])) (fun t k => ?_) ?_
    · show Steps p.tables e below (s₁.setTop (mkF m 4 #[.val (.int p0)] [])) t
      refine st1 _ ?_
      show Steps p.tables e below (T1.setTop (mkF m 7 #[.val (.int p0)] [(.ref w_SUCCESS)])) t
      exact k
    rw [show own_f1_0 p0 w_SUCCESS w_USAGE w_IO_FAILURE w_UNRECOGNIZED w_DAMAGED w_UNSUPPORTED = w_SUCCESS from (by rw [own_f1_0, if_pos hc1])]
    refine Owe.ret X1 Bd.notSynchronized (v := (some (.ref w_SUCCESS))) (fun h => by rw [Bd.returns] at h; cases h) (fun fs hr => ?_) ⟨rfl, N0, e1⟩ (by decide) (by decide)
    show Steps p.tables e below (T1.setTop (mkF m 7 #[.val (.int p0)] [(.ref w_SUCCESS)])) _
    exact retA X1 hx Bd.returns rfl rfl (hb hby own_d1_7) hr
  · refine Owe.step (T' := s₁) (g' := (mkF m 8 #[.val (.int p0)] [])) (fun t k => ?_) ?_
    · show Steps p.tables e below (s₁.setTop (mkF m 1 #[.val (.int p0)] [(.int p0)])) t
      refine XS.ifYes X0.here hx rfl (pc0 := 1) (pc' := 8) rfl (hb hby own_d1_1) rfl ((if0 _ _).trans (feq hc1).2) (by decide) (by decide) ?_
      show Steps p.tables e below (s₁.setTop (mkF m 8 #[.val (.int p0)] [])) t
      exact k
    refine Owe.step (T' := s₁) (g' := (mkF m 10 #[.val (.int p0)] [(.int (1 : Int32)), (.int p0)])) (fun t k => ?_) ?_
    · show Steps p.tables e below (s₁.setTop (mkF m 8 #[.val (.int p0)] [])) t
      refine XS.iloadN X0.here hx rfl (hb hby own_d1_8) rfl ?_
      show Steps p.tables e below (s₁.setTop (mkF m 9 #[.val (.int p0)] [(.int p0)])) t
      refine XS.iconst X0.here hx rfl (hb hby own_d1_9) ?_
      show Steps p.tables e below (s₁.setTop (mkF m 10 #[.val (.int p0)] [(.int (1 : Int32)), (.int p0)])) t
      exact k
    by_cases hc10 : p0 = (1 : Int32)
    · refine Owe.step (T' := s₁) (g' := (mkF m 13 #[.val (.int p0)] [])) (fun t k => ?_) ?_
      · show Steps p.tables e below (s₁.setTop (mkF m 10 #[.val (.int p0)] [(.int (1 : Int32)), (.int p0)])) t
        refine XS.icmpNo X0.here hx rfl (hb hby own_d1_10) rfl (teq hc10).2 ?_
        show Steps p.tables e below (s₁.setTop (mkF m 13 #[.val (.int p0)] [])) t
        exact k
      obtain ⟨T2, X2, e2, st2⟩ := getS2 X0 hx hZ hown (host := "") (Or.inl (hw _ (List.mem_of_getElem? (i := 23) rfl))) Via.refl e0 S_USAGE (g := (mkF m 13 #[.val (.int p0)] [])) rfl (hb hby own_d1_13)
      refine Owe.step (T' := T2) (g' := (mkF m 16 #[.val (.int p0)] [(.ref w_USAGE)])) (fun t k => ?_) ?_
      · show Steps p.tables e below (s₁.setTop (mkF m 13 #[.val (.int p0)] [])) t
        refine st2 _ ?_
        show Steps p.tables e below (T2.setTop (mkF m 16 #[.val (.int p0)] [(.ref w_USAGE)])) t
        exact k
      rw [show own_f1_0 p0 w_SUCCESS w_USAGE w_IO_FAILURE w_UNRECOGNIZED w_DAMAGED w_UNSUPPORTED = w_USAGE from (by rw [own_f1_0, if_neg hc1, if_pos hc10])]
      refine Owe.ret X2 Bd.notSynchronized (v := (some (.ref w_USAGE))) (fun h => by rw [Bd.returns] at h; cases h) (fun fs hr => ?_) ⟨rfl, N0, e2⟩ (by decide) (by decide)
      show Steps p.tables e below (T2.setTop (mkF m 16 #[.val (.int p0)] [(.ref w_USAGE)])) _
      exact retA X2 hx Bd.returns rfl rfl (hb hby own_d1_16) hr
    · refine Owe.step (T' := s₁) (g' := (mkF m 17 #[.val (.int p0)] [])) (fun t k => ?_) ?_
      · show Steps p.tables e below (s₁.setTop (mkF m 10 #[.val (.int p0)] [(.int (1 : Int32)), (.int p0)])) t
        refine XS.icmpYes X0.here hx rfl (pc0 := 10) (pc' := 17) rfl (hb hby own_d1_10) rfl (feq hc10).2 (by decide) (by decide) ?_
        show Steps p.tables e below (s₁.setTop (mkF m 17 #[.val (.int p0)] [])) t
        exact k
      refine Owe.step (T' := s₁) (g' := (mkF m 19 #[.val (.int p0)] [(.int (2 : Int32)), (.int p0)])) (fun t k => ?_) ?_
      · show Steps p.tables e below (s₁.setTop (mkF m 17 #[.val (.int p0)] [])) t
        refine XS.iloadN X0.here hx rfl (hb hby own_d1_17) rfl ?_
        show Steps p.tables e below (s₁.setTop (mkF m 18 #[.val (.int p0)] [(.int p0)])) t
        refine XS.iconst X0.here hx rfl (hb hby own_d1_18) ?_
        show Steps p.tables e below (s₁.setTop (mkF m 19 #[.val (.int p0)] [(.int (2 : Int32)), (.int p0)])) t
        exact k
      by_cases hc19 : p0 = (2 : Int32)
      · refine Owe.step (T' := s₁) (g' := (mkF m 22 #[.val (.int p0)] [])) (fun t k => ?_) ?_
        · show Steps p.tables e below (s₁.setTop (mkF m 19 #[.val (.int p0)] [(.int (2 : Int32)), (.int p0)])) t
          refine XS.icmpNo X0.here hx rfl (hb hby own_d1_19) rfl (teq hc19).2 ?_
          show Steps p.tables e below (s₁.setTop (mkF m 22 #[.val (.int p0)] [])) t
          exact k
        obtain ⟨T3, X3, e3, st3⟩ := getS2 X0 hx hZ hown (host := "") (Or.inl (hw _ (List.mem_of_getElem? (i := 21) rfl))) Via.refl e0 S_IO_FAILURE (g := (mkF m 22 #[.val (.int p0)] [])) rfl (hb hby own_d1_22)
        refine Owe.step (T' := T3) (g' := (mkF m 25 #[.val (.int p0)] [(.ref w_IO_FAILURE)])) (fun t k => ?_) ?_
        · show Steps p.tables e below (s₁.setTop (mkF m 22 #[.val (.int p0)] [])) t
          refine st3 _ ?_
          show Steps p.tables e below (T3.setTop (mkF m 25 #[.val (.int p0)] [(.ref w_IO_FAILURE)])) t
          exact k
        rw [show own_f1_0 p0 w_SUCCESS w_USAGE w_IO_FAILURE w_UNRECOGNIZED w_DAMAGED w_UNSUPPORTED = w_IO_FAILURE from (by rw [own_f1_0, if_neg hc1, if_neg hc10, if_pos hc19])]
        refine Owe.ret X3 Bd.notSynchronized (v := (some (.ref w_IO_FAILURE))) (fun h => by rw [Bd.returns] at h; cases h) (fun fs hr => ?_) ⟨rfl, N0, e3⟩ (by decide) (by decide)
        show Steps p.tables e below (T3.setTop (mkF m 25 #[.val (.int p0)] [(.ref w_IO_FAILURE)])) _
        exact retA X3 hx Bd.returns rfl rfl (hb hby own_d1_25) hr
      · refine Owe.step (T' := s₁) (g' := (mkF m 26 #[.val (.int p0)] [])) (fun t k => ?_) ?_
        · show Steps p.tables e below (s₁.setTop (mkF m 19 #[.val (.int p0)] [(.int (2 : Int32)), (.int p0)])) t
          refine XS.icmpYes X0.here hx rfl (pc0 := 19) (pc' := 26) rfl (hb hby own_d1_19) rfl (feq hc19).2 (by decide) (by decide) ?_
          show Steps p.tables e below (s₁.setTop (mkF m 26 #[.val (.int p0)] [])) t
          exact k
        refine Owe.step (T' := s₁) (g' := (mkF m 28 #[.val (.int p0)] [(.int (3 : Int32)), (.int p0)])) (fun t k => ?_) ?_
        · show Steps p.tables e below (s₁.setTop (mkF m 26 #[.val (.int p0)] [])) t
          refine XS.iloadN X0.here hx rfl (hb hby own_d1_26) rfl ?_
          show Steps p.tables e below (s₁.setTop (mkF m 27 #[.val (.int p0)] [(.int p0)])) t
          refine XS.iconst X0.here hx rfl (hb hby own_d1_27) ?_
          show Steps p.tables e below (s₁.setTop (mkF m 28 #[.val (.int p0)] [(.int (3 : Int32)), (.int p0)])) t
          exact k
        by_cases hc28 : p0 = (3 : Int32)
        · refine Owe.step (T' := s₁) (g' := (mkF m 31 #[.val (.int p0)] [])) (fun t k => ?_) ?_
          · show Steps p.tables e below (s₁.setTop (mkF m 28 #[.val (.int p0)] [(.int (3 : Int32)), (.int p0)])) t
            refine XS.icmpNo X0.here hx rfl (hb hby own_d1_28) rfl (teq hc28).2 ?_
            show Steps p.tables e below (s₁.setTop (mkF m 31 #[.val (.int p0)] [])) t
            exact k
          obtain ⟨T4, X4, e4, st4⟩ := getS2 X0 hx hZ hown (host := "") (Or.inl (hw _ (List.mem_of_getElem? (i := 8) rfl))) Via.refl e0 S_UNRECOGNIZED (g := (mkF m 31 #[.val (.int p0)] [])) rfl (hb hby own_d1_31)
          refine Owe.step (T' := T4) (g' := (mkF m 34 #[.val (.int p0)] [(.ref w_UNRECOGNIZED)])) (fun t k => ?_) ?_
          · show Steps p.tables e below (s₁.setTop (mkF m 31 #[.val (.int p0)] [])) t
            refine st4 _ ?_
            show Steps p.tables e below (T4.setTop (mkF m 34 #[.val (.int p0)] [(.ref w_UNRECOGNIZED)])) t
            exact k
          rw [show own_f1_0 p0 w_SUCCESS w_USAGE w_IO_FAILURE w_UNRECOGNIZED w_DAMAGED w_UNSUPPORTED = w_UNRECOGNIZED from (by rw [own_f1_0, if_neg hc1, if_neg hc10, if_neg hc19, if_pos hc28])]
          refine Owe.ret X4 Bd.notSynchronized (v := (some (.ref w_UNRECOGNIZED))) (fun h => by rw [Bd.returns] at h; cases h) (fun fs hr => ?_) ⟨rfl, N0, e4⟩ (by decide) (by decide)
          show Steps p.tables e below (T4.setTop (mkF m 34 #[.val (.int p0)] [(.ref w_UNRECOGNIZED)])) _
          exact retA X4 hx Bd.returns rfl rfl (hb hby own_d1_34) hr
        · refine Owe.step (T' := s₁) (g' := (mkF m 35 #[.val (.int p0)] [])) (fun t k => ?_) ?_
          · show Steps p.tables e below (s₁.setTop (mkF m 28 #[.val (.int p0)] [(.int (3 : Int32)), (.int p0)])) t
            refine XS.icmpYes X0.here hx rfl (pc0 := 28) (pc' := 35) rfl (hb hby own_d1_28) rfl (feq hc28).2 (by decide) (by decide) ?_
            show Steps p.tables e below (s₁.setTop (mkF m 35 #[.val (.int p0)] [])) t
            exact k
          refine Owe.step (T' := s₁) (g' := (mkF m 37 #[.val (.int p0)] [(.int (4 : Int32)), (.int p0)])) (fun t k => ?_) ?_
          · show Steps p.tables e below (s₁.setTop (mkF m 35 #[.val (.int p0)] [])) t
            refine XS.iloadN X0.here hx rfl (hb hby own_d1_35) rfl ?_
            show Steps p.tables e below (s₁.setTop (mkF m 36 #[.val (.int p0)] [(.int p0)])) t
            refine XS.iconst X0.here hx rfl (hb hby own_d1_36) ?_
            show Steps p.tables e below (s₁.setTop (mkF m 37 #[.val (.int p0)] [(.int (4 : Int32)), (.int p0)])) t
            exact k
          by_cases hc37 : p0 = (4 : Int32)
          · refine Owe.step (T' := s₁) (g' := (mkF m 40 #[.val (.int p0)] [])) (fun t k => ?_) ?_
            · show Steps p.tables e below (s₁.setTop (mkF m 37 #[.val (.int p0)] [(.int (4 : Int32)), (.int p0)])) t
              refine XS.icmpNo X0.here hx rfl (hb hby own_d1_37) rfl (teq hc37).2 ?_
              show Steps p.tables e below (s₁.setTop (mkF m 40 #[.val (.int p0)] [])) t
              exact k
            obtain ⟨T5, X5, e5, st5⟩ := getS2 X0 hx hZ hown (host := "") (Or.inl (hw _ (List.mem_of_getElem? (i := 27) rfl))) Via.refl e0 S_DAMAGED (g := (mkF m 40 #[.val (.int p0)] [])) rfl (hb hby own_d1_40)
            refine Owe.step (T' := T5) (g' := (mkF m 43 #[.val (.int p0)] [(.ref w_DAMAGED)])) (fun t k => ?_) ?_
            · show Steps p.tables e below (s₁.setTop (mkF m 40 #[.val (.int p0)] [])) t
              refine st5 _ ?_
              show Steps p.tables e below (T5.setTop (mkF m 43 #[.val (.int p0)] [(.ref w_DAMAGED)])) t
              exact k
            rw [show own_f1_0 p0 w_SUCCESS w_USAGE w_IO_FAILURE w_UNRECOGNIZED w_DAMAGED w_UNSUPPORTED = w_DAMAGED from (by rw [own_f1_0, if_neg hc1, if_neg hc10, if_neg hc19, if_neg hc28, if_pos hc37])]
            refine Owe.ret X5 Bd.notSynchronized (v := (some (.ref w_DAMAGED))) (fun h => by rw [Bd.returns] at h; cases h) (fun fs hr => ?_) ⟨rfl, N0, e5⟩ (by decide) (by decide)
            show Steps p.tables e below (T5.setTop (mkF m 43 #[.val (.int p0)] [(.ref w_DAMAGED)])) _
            exact retA X5 hx Bd.returns rfl rfl (hb hby own_d1_43) hr
          · refine Owe.step (T' := s₁) (g' := (mkF m 44 #[.val (.int p0)] [])) (fun t k => ?_) ?_
            · show Steps p.tables e below (s₁.setTop (mkF m 37 #[.val (.int p0)] [(.int (4 : Int32)), (.int p0)])) t
              refine XS.icmpYes X0.here hx rfl (pc0 := 37) (pc' := 44) rfl (hb hby own_d1_37) rfl (feq hc37).2 (by decide) (by decide) ?_
              show Steps p.tables e below (s₁.setTop (mkF m 44 #[.val (.int p0)] [])) t
              exact k
            obtain ⟨T6, X6, e6, st6⟩ := getS2 X0 hx hZ hown (host := "") (Or.inl (hw _ (List.mem_of_getElem? (i := 25) rfl))) Via.refl e0 S_UNSUPPORTED (g := (mkF m 44 #[.val (.int p0)] [])) rfl (hb hby own_d1_44)
            refine Owe.step (T' := T6) (g' := (mkF m 47 #[.val (.int p0)] [(.ref w_UNSUPPORTED)])) (fun t k => ?_) ?_
            · show Steps p.tables e below (s₁.setTop (mkF m 44 #[.val (.int p0)] [])) t
              refine st6 _ ?_
              show Steps p.tables e below (T6.setTop (mkF m 47 #[.val (.int p0)] [(.ref w_UNSUPPORTED)])) t
              exact k
            rw [show own_f1_0 p0 w_SUCCESS w_USAGE w_IO_FAILURE w_UNRECOGNIZED w_DAMAGED w_UNSUPPORTED = w_UNSUPPORTED from (by rw [own_f1_0, if_neg hc1, if_neg hc10, if_neg hc19, if_neg hc28, if_neg hc37])]
            refine Owe.ret X6 Bd.notSynchronized (v := (some (.ref w_UNSUPPORTED))) (fun h => by rw [Bd.returns] at h; cases h) (fun fs hr => ?_) ⟨rfl, N0, e6⟩ (by decide) (by decide)
            show Steps p.tables e below (T6.setTop (mkF m 47 #[.val (.int p0)] [(.ref w_UNSUPPORTED)])) _
            exact retA X6 hx Bd.returns rfl rfl (hb hby own_d1_47) hr
theorem own_fldI {args : Array Value} {Z : State} {t : Term} {a : Addr} {C n d : String} {k : Int32} (ev : t.eval args Z none [] Z = some (.ref a)) (h : (Jvm.Cond.eq (Jvm.Term.field t C n d) (Jvm.Term.int k)).value args Z none Z [] = some true) : Fld Z Z.heap a C n d (.int k) := by
  obtain ⟨x, y, h1, h2, h3, -⟩ := cmp_v (Or.inl h)
  have e2 : (Jvm.Term.int k).eval args Z none [] Z = some (.int k) := Term.int_eval k
  cases h2.symm.trans e2
  have h4 : x = .int k := by
    cases x with
    | int z => simp [Cond.value, h1, e2] at h; rw [h]
    | _ => simp [Kin, Value.isRef] at h3
  exact Fld.start (by rw [← fld_at (C := C) (n := n) (dd := d) ev, h1, h4])
def own_ST (Z : State) (h : Heap) (w_SUCCESS w_USAGE w_IO_FAILURE w_UNRECOGNIZED w_DAMAGED w_UNSUPPORTED : Addr) : Prop := Exa Z h w_SUCCESS "com/example/rasterline/rasterline/cli/ExitStatus" ∧ Exa Z h w_USAGE "com/example/rasterline/rasterline/cli/ExitStatus" ∧ Exa Z h w_IO_FAILURE "com/example/rasterline/rasterline/cli/ExitStatus" ∧ Exa Z h w_UNRECOGNIZED "com/example/rasterline/rasterline/cli/ExitStatus" ∧ Exa Z h w_DAMAGED "com/example/rasterline/rasterline/cli/ExitStatus" ∧ Exa Z h w_UNSUPPORTED "com/example/rasterline/rasterline/cli/ExitStatus" ∧ Fld Z h w_SUCCESS "com/example/rasterline/rasterline/cli/ExitStatus" "code" "I" (.int (0 : Int32)) ∧ Fld Z h w_USAGE "com/example/rasterline/rasterline/cli/ExitStatus" "code" "I" (.int (1 : Int32)) ∧ Fld Z h w_IO_FAILURE "com/example/rasterline/rasterline/cli/ExitStatus" "code" "I" (.int (2 : Int32)) ∧ Fld Z h w_UNRECOGNIZED "com/example/rasterline/rasterline/cli/ExitStatus" "code" "I" (.int (3 : Int32)) ∧ Fld Z h w_DAMAGED "com/example/rasterline/rasterline/cli/ExitStatus" "code" "I" (.int (4 : Int32)) ∧ Fld Z h w_UNSUPPORTED "com/example/rasterline/rasterline/cli/ExitStatus" "code" "I" (.int (5 : Int32))
def own_cd (i : Int32) : Int32 := if i = (0 : Int32) then 0 else if i = (1 : Int32) then 1 else if i = (2 : Int32) then 2 else if i = (3 : Int32) then 3 else if i = (4 : Int32) then 4 else 5
theorem own_exa {Z : State} {h : Heap} {w_SUCCESS w_USAGE w_IO_FAILURE w_UNRECOGNIZED w_DAMAGED w_UNSUPPORTED : Addr} (H : own_ST Z h w_SUCCESS w_USAGE w_IO_FAILURE w_UNRECOGNIZED w_DAMAGED w_UNSUPPORTED) (i : Int32) : Exa Z h (own_f1_0 i w_SUCCESS w_USAGE w_IO_FAILURE w_UNRECOGNIZED w_DAMAGED w_UNSUPPORTED) "com/example/rasterline/rasterline/cli/ExitStatus" := by
  obtain ⟨h0, h1, h2, h3, h4, h5, -⟩ := H
  unfold own_f1_0
  repeat' split
  all_goals with_reducible assumption
theorem own_fld {Z : State} {h : Heap} {w_SUCCESS w_USAGE w_IO_FAILURE w_UNRECOGNIZED w_DAMAGED w_UNSUPPORTED : Addr} (H : own_ST Z h w_SUCCESS w_USAGE w_IO_FAILURE w_UNRECOGNIZED w_DAMAGED w_UNSUPPORTED) (i : Int32) : Fld Z h (own_f1_0 i w_SUCCESS w_USAGE w_IO_FAILURE w_UNRECOGNIZED w_DAMAGED w_UNSUPPORTED) "com/example/rasterline/rasterline/cli/ExitStatus" "code" "I" (.int (own_cd i)) := by
  obtain ⟨-, -, -, -, -, -, h0, h1, h2, h3, h4, h5⟩ := H
  unfold own_f1_0 own_cd
  repeat' split
  all_goals with_reducible assumption
theorem own_d2_0 : decode jdk_29_method_65_code 0 = .ok (.iload_n 0, 1) := by decide +kernel
theorem own_d2_1 : decode jdk_29_method_65_code 1 = .ok (.iload_n 1, 1) := by decide +kernel
theorem own_d2_2 : decode jdk_29_method_65_code 2 = .ok (.if_icmp .lt 7, 3) := by decide +kernel
theorem own_d2_5 : decode jdk_29_method_65_code 5 = .ok (.iload_n 0, 1) := by decide +kernel
theorem own_d2_6 : decode jdk_29_method_65_code 6 = .ok (.goto 4, 3) := by decide +kernel
theorem own_d2_9 : decode jdk_29_method_65_code 9 = .ok (.iload_n 1, 1) := by decide +kernel
theorem own_d2_10 : decode jdk_29_method_65_code 10 = .ok (.ireturn, 1) := by decide +kernel
theorem own_ef2 (m : MethodId) (p0 : Int32) (p1 : Int32) : entryFrame m #[(.int p0), (.int p1)] 2 = mkF m 0 #[.val (.int p0), .val (.int p1)] [] := by first | (simp [entryFrame, mkF, argsToLocals, Value.category]; done) | rfl
def own_f2_0 (p0 : Int32) (p1 : Int32) : Int32 := (if p0 < p1 then p1 else p0)
set_option maxRecDepth 65536 in
set_option maxHeartbeats 40000000 in
theorem own_rm2 (l : Launch) (Z : State) (aA : Array Value) (hw : ∀ d ∈ tables_1, d.before aA Z = true) (ws : List Jvm.Cond) (p0 : Int32) (p1 : Int32)  (h0 : Heap) (n0 : Nat) (Z0 : n0 ≤ h0.size) :
    MetFree l (⟨"java/lang/Math", "max", "(II)I"⟩ : MethodName) (head1 (Jvm.Cond.code (⟨"java/lang/Math", "max", "(II)I"⟩ : MethodName) jdk_29_method_65_code 2 (some .int) :: ws) ({ frames := 0, cells := 0, slots := 0, locals := 0 } : Room)) (fun a U => a = #[(.int p0), (.int p1)] ∧ Z.Warmed39 U.vm ∧ U.heap = h0) (fun _ _ _ _ _ => True) (fun _ U o U' => ∃ v L, o = .returned v ∧ (QP (.int (own_f2_0 p0 p1)) h0 n0) v U'.heap L ∧ FrameEnd U o U' L ({ frames := 0, cells := 0, slots := 0, locals := 0 } : Room).cells ({ frames := 0, cells := 0, slots := 0, locals := 0 } : Room).slots) := by
  refine MetFree.of_bodySF (Jvm.Free.JP.mathPlain rfl (by decide +kernel)) hisR ?_
  intro p e s m args below meth c s₁ Bd hml0 hP hK
  obtain ⟨rfl, hZ, hh⟩ := hP
  have hx := Bd.exec
  have hby := Bd.bytes
  have hml : c.maxLocals = 2 := hml0
  have hown : s.vm.findClass "java/lang/Math" = some m.cls := findClass_of_methodNamed Bd.named
  have hnm := (name_of_methodNamed Bd.named Bd.method).1
  have X0 : Stand p l e ({ frames := 0, cells := 0, slots := 0, locals := 0 } : Room) s m #[(.int p0), (.int p1)] below meth c s₁ [] 0 0 := Stand.of_body Bd
  have e0 : s₁.heap = h0 := by rw [← hh, Bd.state]; rfl
  have N0 := Fr.nil n0
  refine Owe.step (T := s₁) (T' := s₁) (g' := (mkF m 0 #[.val (.int p0), .val (.int p1)] [])) (fun t k => castTop (own_ef2 m p0 p1) k) ?_
  refine Owe.step (T' := s₁) (g' := (mkF m 2 #[.val (.int p0), .val (.int p1)] [(.int p1), (.int p0)])) (fun t k => ?_) ?_
  · show Steps p.tables e below (s₁.setTop (mkF m 0 #[.val (.int p0), .val (.int p1)] [])) t
    refine XS.iloadN X0.here hx rfl (hb hby own_d2_0) rfl ?_
    show Steps p.tables e below (s₁.setTop (mkF m 1 #[.val (.int p0), .val (.int p1)] [(.int p0)])) t
    refine XS.iloadN X0.here hx rfl (hb hby own_d2_1) rfl ?_
    show Steps p.tables e below (s₁.setTop (mkF m 2 #[.val (.int p0), .val (.int p1)] [(.int p1), (.int p0)])) t
    exact k
  by_cases hc2 : p0 < p1
  · refine Owe.step (T' := s₁) (g' := (mkF m 9 #[.val (.int p0), .val (.int p1)] [])) (fun t k => ?_) ?_
    · show Steps p.tables e below (s₁.setTop (mkF m 2 #[.val (.int p0), .val (.int p1)] [(.int p1), (.int p0)])) t
      refine XS.icmpYes X0.here hx rfl (pc0 := 2) (pc' := 9) rfl (hb hby own_d2_2) rfl (tlt hc2).1 (by decide) (by decide) ?_
      show Steps p.tables e below (s₁.setTop (mkF m 9 #[.val (.int p0), .val (.int p1)] [])) t
      exact k
    rw [show own_f2_0 p0 p1 = p1 from (by rw [own_f2_0, if_pos hc2])]
    refine Owe.ret X0 Bd.notSynchronized (v := (some (.int p1))) (fun h => by rw [Bd.returns] at h; cases h) (fun fs hr => ?_) ⟨rfl, N0, e0⟩ (by decide) (by decide)
    show Steps p.tables e below (s₁.setTop (mkF m 9 #[.val (.int p0), .val (.int p1)] [])) _
    refine XS.iloadN X0.here hx rfl (hb hby own_d2_9) rfl ?_
    show Steps p.tables e below (s₁.setTop (mkF m 10 #[.val (.int p0), .val (.int p1)] [(.int p1)])) _
    exact retI X0 hx Bd.returns (hb hby own_d2_10) hr
  · refine Owe.step (T' := s₁) (g' := (mkF m 5 #[.val (.int p0), .val (.int p1)] [])) (fun t k => ?_) ?_
    · show Steps p.tables e below (s₁.setTop (mkF m 2 #[.val (.int p0), .val (.int p1)] [(.int p1), (.int p0)])) t
      refine XS.icmpNo X0.here hx rfl (hb hby own_d2_2) rfl (flt hc2).1 ?_
      show Steps p.tables e below (s₁.setTop (mkF m 5 #[.val (.int p0), .val (.int p1)] [])) t
      exact k
    rw [show own_f2_0 p0 p1 = p0 from (by rw [own_f2_0, if_neg hc2])]
    refine Owe.ret X0 Bd.notSynchronized (v := (some (.int p0))) (fun h => by rw [Bd.returns] at h; cases h) (fun fs hr => ?_) ⟨rfl, N0, e0⟩ (by decide) (by decide)
    show Steps p.tables e below (s₁.setTop (mkF m 5 #[.val (.int p0), .val (.int p1)] [])) _
    refine XS.iloadN X0.here hx rfl (hb hby own_d2_5) rfl ?_
    show Steps p.tables e below (s₁.setTop (mkF m 6 #[.val (.int p0), .val (.int p1)] [(.int p0)])) _
    refine XS.goto X0.here hx rfl (pc0 := 6) (pc' := 10) rfl (hb hby own_d2_6) (by decide) (by decide) ?_
    show Steps p.tables e below (s₁.setTop (mkF m 10 #[.val (.int p0), .val (.int p1)] [(.int p0)])) _
    exact retI X0 hx Bd.returns (hb hby own_d2_10) hr
theorem own_d3_0 : decode prog_25_method_5_code 0 = .ok (.aload_n 1, 1) := by decide +kernel
theorem own_d3_1 : decode prog_25_method_5_code 1 = .ok (.getfield 41, 3) := by decide +kernel
theorem own_d3_4 : decode prog_25_method_5_code 4 = .ok (.aload_n 0, 1) := by decide +kernel
theorem own_d3_5 : decode prog_25_method_5_code 5 = .ok (.getfield 41, 3) := by decide +kernel
theorem own_d3_8 : decode prog_25_method_5_code 8 = .ok (.if_icmp .le 7, 3) := by decide +kernel
theorem own_d3_11 : decode prog_25_method_5_code 11 = .ok (.aload_n 1, 1) := by decide +kernel
theorem own_d3_12 : decode prog_25_method_5_code 12 = .ok (.goto 4, 3) := by decide +kernel
theorem own_d3_15 : decode prog_25_method_5_code 15 = .ok (.aload_n 0, 1) := by decide +kernel
theorem own_d3_16 : decode prog_25_method_5_code 16 = .ok (.areturn, 1) := by decide +kernel
theorem own_pn1 : plainName "com/example/rasterline/rasterline/cli/ExitStatus" = true := by first | (simp [plainName, overriddenIn]; done) | decide +kernel
theorem own_ef3 (m : MethodId) (a0 : Addr) (a1 : Addr) : entryFrame m #[(.ref a0), (.ref a1)] 2 = mkF m 0 #[.val (.ref a0), .val (.ref a1)] [] := by first | (simp [entryFrame, mkF, argsToLocals, Value.category]; done) | rfl
def own_f3_0 (a0 : Addr) (a1 : Addr) (c0 : Int32) (c1 : Int32) : Addr := (if c0 < c1 then a1 else a0)
set_option maxRecDepth 65536 in
set_option maxHeartbeats 40000000 in
theorem own_rm3 (l : Launch) (Z : State) (aA : Array Value) (hw : ∀ d ∈ tables_1, d.before aA Z = true) (ws : List Jvm.Cond) (a0 : Addr) (a1 : Addr) (c0 : Int32) (c1 : Int32) (h0 : Heap) (n0 : Nat) (Z0 : n0 ≤ h0.size) (F0 : Fld Z h0 a0 "com/example/rasterline/rasterline/cli/ExitStatus" "code" "I" (.int c0)) (F1 : Fld Z h0 a1 "com/example/rasterline/rasterline/cli/ExitStatus" "code" "I" (.int c1)) :
    MetFree l (⟨"com/example/rasterline/rasterline/cli/ExitStatus", "max", "(Lcom/example/rasterline/rasterline/cli/ExitStatus;)Lcom/example/rasterline/rasterline/cli/ExitStatus;"⟩ : MethodName) (head1 (Jvm.Cond.code (⟨"com/example/rasterline/rasterline/cli/ExitStatus", "max", "(Lcom/example/rasterline/rasterline/cli/ExitStatus;)Lcom/example/rasterline/rasterline/cli/ExitStatus;"⟩ : MethodName) prog_25_method_5_code 2 (some (.object "com/example/rasterline/rasterline/cli/ExitStatus")) :: ws) ({ frames := 0, cells := 0, slots := 0, locals := 0 } : Room)) (fun a U => a = #[(.ref a0), (.ref a1)] ∧ Z.Warmed39 U.vm ∧ U.heap = h0) (fun _ _ _ _ _ => True) (fun _ U o U' => ∃ v L, o = .returned v ∧ (QP (.ref (own_f3_0 a0 a1 c0 c1)) h0 n0) v U'.heap L ∧ FrameEnd U o U' L ({ frames := 0, cells := 0, slots := 0, locals := 0 } : Room).cells ({ frames := 0, cells := 0, slots := 0, locals := 0 } : Room).slots) := by
  refine MetFree.of_bodySF (plainFor_of_name own_pn1) hisR ?_
  intro p e s m args below meth c s₁ Bd hml0 hP hK
  obtain ⟨rfl, hZ, hh⟩ := hP
  have hx := Bd.exec
  have hby := Bd.bytes
  have hml : c.maxLocals = 2 := hml0
  have hown : s.vm.findClass "com/example/rasterline/rasterline/cli/ExitStatus" = some m.cls := findClass_of_methodNamed Bd.named
  have hnm := (name_of_methodNamed Bd.named Bd.method).1
  have X0 : Stand p l e ({ frames := 0, cells := 0, slots := 0, locals := 0 } : Room) s m #[(.ref a0), (.ref a1)] below meth c s₁ [] 0 0 := Stand.of_body Bd
  have e0 : s₁.heap = h0 := by rw [← hh, Bd.state]; rfl
  have N0 := Fr.nil n0
  refine Owe.step (T := s₁) (T' := s₁) (g' := (mkF m 0 #[.val (.ref a0), .val (.ref a1)] [])) (fun t k => castTop (own_ef3 m a0 a1) k) ?_
  obtain ⟨T1, X1, e1, st1⟩ := getF X0 hx hZ hown (host := "") (Or.inl (hw _ (List.mem_of_getElem? (i := 19) rfl))) Via.refl e0 F1 (g := (mkF m 1 #[.val (.ref a0), .val (.ref a1)] [(.ref a1)])) rfl rfl (hb hby own_d3_1)
  obtain ⟨T2, X2, e2, st2⟩ := getF X1 hx hZ hown (host := "") (Or.inl (hw _ (List.mem_of_getElem? (i := 19) rfl))) Via.refl e1 F0 (g := (mkF m 5 #[.val (.ref a0), .val (.ref a1)] [(.ref a0), (.int c1)])) rfl rfl (hb hby own_d3_5)
  refine Owe.step (T' := T2) (g' := (mkF m 8 #[.val (.ref a0), .val (.ref a1)] [(.int c0), (.int c1)])) (fun t k => ?_) ?_
  · show Steps p.tables e below (s₁.setTop (mkF m 0 #[.val (.ref a0), .val (.ref a1)] [])) t
    refine XS.aloadN X0.here hx rfl (hb hby own_d3_0) rfl rfl ?_
    show Steps p.tables e below (s₁.setTop (mkF m 1 #[.val (.ref a0), .val (.ref a1)] [(.ref a1)])) t
    refine st1 _ ?_
    show Steps p.tables e below (T1.setTop (mkF m 4 #[.val (.ref a0), .val (.ref a1)] [(.int c1)])) t
    refine XS.aloadN X1.here hx rfl (hb hby own_d3_4) rfl rfl ?_
    show Steps p.tables e below (T1.setTop (mkF m 5 #[.val (.ref a0), .val (.ref a1)] [(.ref a0), (.int c1)])) t
    refine st2 _ ?_
    show Steps p.tables e below (T2.setTop (mkF m 8 #[.val (.ref a0), .val (.ref a1)] [(.int c0), (.int c1)])) t
    exact k
  by_cases hc8 : c0 < c1
  · refine Owe.step (T' := T2) (g' := (mkF m 11 #[.val (.ref a0), .val (.ref a1)] [])) (fun t k => ?_) ?_
    · show Steps p.tables e below (T2.setTop (mkF m 8 #[.val (.ref a0), .val (.ref a1)] [(.int c0), (.int c1)])) t
      refine XS.icmpNo X2.here hx rfl (hb hby own_d3_8) rfl (tlt hc8).2.2.2 ?_
      show Steps p.tables e below (T2.setTop (mkF m 11 #[.val (.ref a0), .val (.ref a1)] [])) t
      exact k
    rw [show own_f3_0 a0 a1 c0 c1 = a1 from (by rw [own_f3_0, if_pos hc8])]
    refine Owe.ret X2 Bd.notSynchronized (v := (some (.ref a1))) (fun h => by rw [Bd.returns] at h; cases h) (fun fs hr => ?_) ⟨rfl, N0, e2⟩ (by decide) (by decide)
    show Steps p.tables e below (T2.setTop (mkF m 11 #[.val (.ref a0), .val (.ref a1)] [])) _
    refine XS.aloadN X2.here hx rfl (hb hby own_d3_11) rfl rfl ?_
    show Steps p.tables e below (T2.setTop (mkF m 12 #[.val (.ref a0), .val (.ref a1)] [(.ref a1)])) _
    refine XS.goto X2.here hx rfl (pc0 := 12) (pc' := 16) rfl (hb hby own_d3_12) (by decide) (by decide) ?_
    show Steps p.tables e below (T2.setTop (mkF m 16 #[.val (.ref a0), .val (.ref a1)] [(.ref a1)])) _
    exact retA X2 hx Bd.returns rfl rfl (hb hby own_d3_16) hr
  · refine Owe.step (T' := T2) (g' := (mkF m 15 #[.val (.ref a0), .val (.ref a1)] [])) (fun t k => ?_) ?_
    · show Steps p.tables e below (T2.setTop (mkF m 8 #[.val (.ref a0), .val (.ref a1)] [(.int c0), (.int c1)])) t
      refine XS.icmpYes X2.here hx rfl (pc0 := 8) (pc' := 15) rfl (hb hby own_d3_8) rfl (flt hc8).2.2.2 (by decide) (by decide) ?_
      show Steps p.tables e below (T2.setTop (mkF m 15 #[.val (.ref a0), .val (.ref a1)] [])) t
      exact k
    rw [show own_f3_0 a0 a1 c0 c1 = a0 from (by rw [own_f3_0, if_neg hc8])]
    refine Owe.ret X2 Bd.notSynchronized (v := (some (.ref a0))) (fun h => by rw [Bd.returns] at h; cases h) (fun fs hr => ?_) ⟨rfl, N0, e2⟩ (by decide) (by decide)
    show Steps p.tables e below (T2.setTop (mkF m 15 #[.val (.ref a0), .val (.ref a1)] [])) _
    refine XS.aloadN X2.here hx rfl (hb hby own_d3_15) rfl rfl ?_
    show Steps p.tables e below (T2.setTop (mkF m 16 #[.val (.ref a0), .val (.ref a1)] [(.ref a0)])) _
    exact retA X2 hx Bd.returns rfl rfl (hb hby own_d3_16) hr
theorem own_pd0 : parseMethodDescriptor "(I)Lcom/example/rasterline/rasterline/cli/ExitStatus;" = some ⟨[.int], some (.object "com/example/rasterline/rasterline/cli/ExitStatus")⟩ := by decide +kernel
theorem own_pd1 : parseMethodDescriptor "(II)I" = some ⟨[.int, .int], some .int⟩ := by decide +kernel
theorem own_pd2 : parseMethodDescriptor "(Lcom/example/rasterline/rasterline/cli/ExitStatus;)Lcom/example/rasterline/rasterline/cli/ExitStatus;" = some ⟨[(.object "com/example/rasterline/rasterline/cli/ExitStatus")], some (.object "com/example/rasterline/rasterline/cli/ExitStatus")⟩ := by decide +kernel
theorem own_ef0 (m : MethodId) (p0 : Int32) (p1 : Int32) : entryFrame m #[(.int p0), (.int p1)] maxLocals = mkF m 0 #[.val (.int p0), .val (.int p1), .unset, .unset, .unset, .unset, .unset, .unset] [] := by first | (simp [entryFrame, mkF, argsToLocals, Value.category, maxLocals]; done) | rfl
def own_f0_0 (p0 : Int32) (p1 : Int32) (w_SUCCESS : Addr) (w_USAGE : Addr) (w_IO_FAILURE : Addr) (w_UNRECOGNIZED : Addr) (w_DAMAGED : Addr) (w_UNSUPPORTED : Addr) : Int32 := (if (own_f3_0 (own_f1_0 ((p0 &&& (2147483647 : Int32)) - ((p0 &&& (2147483647 : Int32)) / (6 : Int32)) * (6 : Int32)) w_SUCCESS w_USAGE w_IO_FAILURE w_UNRECOGNIZED w_DAMAGED w_UNSUPPORTED) (own_f1_0 ((p1 &&& (2147483647 : Int32)) - ((p1 &&& (2147483647 : Int32)) / (6 : Int32)) * (6 : Int32)) w_SUCCESS w_USAGE w_IO_FAILURE w_UNRECOGNIZED w_DAMAGED w_UNSUPPORTED) (own_cd ((p0 &&& (2147483647 : Int32)) - ((p0 &&& (2147483647 : Int32)) / (6 : Int32)) * (6 : Int32))) (own_cd ((p1 &&& (2147483647 : Int32)) - ((p1 &&& (2147483647 : Int32)) / (6 : Int32)) * (6 : Int32)))) = (own_f1_0 (own_f2_0 ((p0 &&& (2147483647 : Int32)) - ((p0 &&& (2147483647 : Int32)) / (6 : Int32)) * (6 : Int32)) ((p1 &&& (2147483647 : Int32)) - ((p1 &&& (2147483647 : Int32)) / (6 : Int32)) * (6 : Int32))) w_SUCCESS w_USAGE w_IO_FAILURE w_UNRECOGNIZED w_DAMAGED w_UNSUPPORTED) then (1 : Int32) else (0 : Int32))
theorem own_i6 (x : Int32) : 0 ≤ ((x &&& (2147483647 : Int32)) - ((x &&& (2147483647 : Int32)) / (6 : Int32)) * (6 : Int32)).toInt ∧ ((x &&& (2147483647 : Int32)) - ((x &&& (2147483647 : Int32)) / (6 : Int32)) * (6 : Int32)).toInt < 6 := by
  have h := c_mask x 2147483647 31 (by decide) (by decide)
  rw [own_irem]
  have r := c_irem (x &&& (2147483647 : Int32)) 6 6 (by decide)
  omega
theorem own_cdi {i : Int32} (h : 0 ≤ i.toInt ∧ i.toInt < 6) : own_cd i = i := by
  have c : i = 0 ∨ i = 1 ∨ i = 2 ∨ i = 3 ∨ i = 4 ∨ i = 5 := by
    simp only [← Int32.toInt_inj, Int32.reduceToInt]
    omega
  rcases c with rfl | rfl | rfl | rfl | rfl | rfl <;> decide
theorem own_law (p0 p1 : Int32) (w0 w1 w2 w3 w4 w5 : Addr) : own_f0_0 p0 p1 w0 w1 w2 w3 w4 w5 = 1 := by
  unfold own_f0_0 own_f3_0
  rw [own_cdi (own_i6 p0), own_cdi (own_i6 p1), if_pos]
  unfold own_f2_0
  split <;> rfl
set_option maxRecDepth 65536 in
set_option maxHeartbeats 40000000 in
theorem own_rm0 (l : Launch) (Z : State) (aA : Array Value) (hw : ∀ d ∈ tables_1, d.before aA Z = true) (ws : List Jvm.Cond) (p0 : Int32) (p1 : Int32) (w_SUCCESS : Addr) (w_USAGE : Addr) (w_IO_FAILURE : Addr) (w_UNRECOGNIZED : Addr) (w_DAMAGED : Addr) (w_UNSUPPORTED : Addr) (h0 : Heap) (n0 : Nat) (Z0 : n0 ≤ h0.size) (S_SUCCESS : Sta Z h0 "com/example/rasterline/rasterline/cli/ExitStatus" "SUCCESS" "Lcom/example/rasterline/rasterline/cli/ExitStatus;" (.ref w_SUCCESS)) (S_USAGE : Sta Z h0 "com/example/rasterline/rasterline/cli/ExitStatus" "USAGE" "Lcom/example/rasterline/rasterline/cli/ExitStatus;" (.ref w_USAGE)) (S_IO_FAILURE : Sta Z h0 "com/example/rasterline/rasterline/cli/ExitStatus" "IO_FAILURE" "Lcom/example/rasterline/rasterline/cli/ExitStatus;" (.ref w_IO_FAILURE)) (S_UNRECOGNIZED : Sta Z h0 "com/example/rasterline/rasterline/cli/ExitStatus" "UNRECOGNIZED" "Lcom/example/rasterline/rasterline/cli/ExitStatus;" (.ref w_UNRECOGNIZED)) (S_DAMAGED : Sta Z h0 "com/example/rasterline/rasterline/cli/ExitStatus" "DAMAGED" "Lcom/example/rasterline/rasterline/cli/ExitStatus;" (.ref w_DAMAGED)) (S_UNSUPPORTED : Sta Z h0 "com/example/rasterline/rasterline/cli/ExitStatus" "UNSUPPORTED" "Lcom/example/rasterline/rasterline/cli/ExitStatus;" (.ref w_UNSUPPORTED)) (HS : own_ST Z h0 w_SUCCESS w_USAGE w_IO_FAILURE w_UNRECOGNIZED w_DAMAGED w_UNSUPPORTED) :
    MetFree l x (head1 (Jvm.Cond.code x code maxLocals ret :: ws) room_1) (fun a U => a = #[(.int p0), (.int p1)] ∧ Z.Warmed39 U.vm ∧ U.heap = h0) (fun _ _ _ _ _ => True) (fun _ U o U' => ∃ v L, o = .returned v ∧ (QL (.int ((1 : Int32))) n0) v U'.heap L ∧ FrameEnd U o U' L 0 0) := by
  refine MetFree.of_bodySF (plainFor_of_name own_pn0) hisR ?_
  intro p e s m args below meth c s₁ Bd hml0 hP hK
  obtain ⟨rfl, hZ, hh⟩ := hP
  have hx := Bd.exec
  have hby := Bd.bytes
  have hml : c.maxLocals = 8 := hml0
  have hown : s.vm.findClass "com/example/rasterline/rasterline/cli/ExitStatusMaxPinLaw" = some m.cls := findClass_of_methodNamed Bd.named
  have hnm := (name_of_methodNamed Bd.named Bd.method).1
  have X0 : Stand p l e room_1 s m #[(.int p0), (.int p1)] below meth c s₁ [] 0 0 := Stand.of_body Bd
  have e0 : s₁.heap = h0 := by rw [← hh, Bd.state]; rfl
  have N0 := Fr.nil n0
  refine Owe.step (T := s₁) (T' := s₁) (g' := (mkF m 0 #[.val (.int p0), .val (.int p1), .unset, .unset, .unset, .unset, .unset, .unset] [])) (fun t k => castTop (own_ef0 m p0 p1) k) ?_
  obtain ⟨_, _, ⟨T1, L1, k1, n1⟩, -, X1, ⟨Lc1, hQ1, l1, y1, z1⟩, st1⟩ := Jvm.LawKit.callS X0 hx (y := (⟨"com/example/rasterline/rasterline/cli/ExitStatusMaxPinLaw", "pick", "(I)Lcom/example/rasterline/rasterline/cli/ExitStatus;"⟩ : MethodName)) hown (mvT hZ (hw _ (List.mem_of_getElem? (i := 1) rfl))) (mvT hZ (hw _ (List.mem_of_getElem? (i := 2) rfl))) (mvT hZ (hw _ (List.mem_of_getElem? (i := 3) rfl))) (mvT hZ (hw _ (List.mem_of_getElem? (i := 4) rfl))) (by decide) (backOf (W := 0) (own_rm1 l Z aA hw [] ((p0 &&& (2147483647 : Int32)) - ((p0 &&& (2147483647 : Int32)) / (6 : Int32)) * (6 : Int32)) w_SUCCESS w_USAGE w_IO_FAILURE w_UNRECOGNIZED w_DAMAGED w_UNSUPPORTED h0 n0 Z0 S_SUCCESS S_USAGE S_IO_FAILURE S_UNRECOGNIZED S_DAMAGED S_UNSUPPORTED) hZ (hw _ (List.mem_of_getElem? (i := 4) rfl)) (hw _ (List.mem_of_getElem? (i := 3) rfl)) (by decide) (by decide)) (g := (mkF m 17 #[.val (.int p0), .val (.int p1), .val (.int ((p0 &&& (2147483647 : Int32)) - ((p0 &&& (2147483647 : Int32)) / (6 : Int32)) * (6 : Int32))), .val (.int ((p1 &&& (2147483647 : Int32)) - ((p1 &&& (2147483647 : Int32)) / (6 : Int32)) * (6 : Int32))), .unset, .unset, .unset, .unset] [(.int ((p0 &&& (2147483647 : Int32)) - ((p0 &&& (2147483647 : Int32)) / (6 : Int32)) * (6 : Int32)))])) rfl (by rw [hml]; rfl) (argsL := [(.int ((p0 &&& (2147483647 : Int32)) - ((p0 &&& (2147483647 : Int32)) / (6 : Int32)) * (6 : Int32)))]) (rest := []) (lenOf own_pd0 rfl) rfl (by show 2 * 0 + _ ≤ _; exact Nat.le_of_eq rfl) (hb hby at_17) (fun _ _ => ⟨rfl, e0, (by decide : 0 + 0 ≤ _), (by decide : 0 + 0 ≤ _)⟩)
  dsimp only [Pt.U, Pt.locs, Pt.cells, Pt.slots] at X1 l1 y1 z1 st1 hQ1
  subst y1 z1
  obtain ⟨rfl, N1q, e1⟩ := hQ1
  have N1 : Fr n0 L1 := by rw [l1]; exact Fr.app N0 N1q
  obtain ⟨_, _, ⟨T2, L2, k2, n2⟩, -, X2, ⟨Lc2, hQ2, l2, y2, z2⟩, st2⟩ := Jvm.LawKit.callS X1 hx (y := (⟨"com/example/rasterline/rasterline/cli/ExitStatusMaxPinLaw", "pick", "(I)Lcom/example/rasterline/rasterline/cli/ExitStatus;"⟩ : MethodName)) hown (mvT hZ (hw _ (List.mem_of_getElem? (i := 1) rfl))) (mvT hZ (hw _ (List.mem_of_getElem? (i := 2) rfl))) (mvT hZ (hw _ (List.mem_of_getElem? (i := 3) rfl))) (mvT hZ (hw _ (List.mem_of_getElem? (i := 4) rfl))) (by decide) (backOf (W := 0) (own_rm1 l Z aA hw [] ((p1 &&& (2147483647 : Int32)) - ((p1 &&& (2147483647 : Int32)) / (6 : Int32)) * (6 : Int32)) w_SUCCESS w_USAGE w_IO_FAILURE w_UNRECOGNIZED w_DAMAGED w_UNSUPPORTED h0 n0 Z0 S_SUCCESS S_USAGE S_IO_FAILURE S_UNRECOGNIZED S_DAMAGED S_UNSUPPORTED) hZ (hw _ (List.mem_of_getElem? (i := 4) rfl)) (hw _ (List.mem_of_getElem? (i := 3) rfl)) (by decide) (by decide)) (g := (mkF m 23 #[.val (.int p0), .val (.int p1), .val (.int ((p0 &&& (2147483647 : Int32)) - ((p0 &&& (2147483647 : Int32)) / (6 : Int32)) * (6 : Int32))), .val (.int ((p1 &&& (2147483647 : Int32)) - ((p1 &&& (2147483647 : Int32)) / (6 : Int32)) * (6 : Int32))), .val (.ref (own_f1_0 ((p0 &&& (2147483647 : Int32)) - ((p0 &&& (2147483647 : Int32)) / (6 : Int32)) * (6 : Int32)) w_SUCCESS w_USAGE w_IO_FAILURE w_UNRECOGNIZED w_DAMAGED w_UNSUPPORTED)), .unset, .unset, .unset] [(.int ((p1 &&& (2147483647 : Int32)) - ((p1 &&& (2147483647 : Int32)) / (6 : Int32)) * (6 : Int32)))])) rfl (by rw [hml]; rfl) (argsL := [(.int ((p1 &&& (2147483647 : Int32)) - ((p1 &&& (2147483647 : Int32)) / (6 : Int32)) * (6 : Int32)))]) (rest := []) (lenOf own_pd0 rfl) rfl (by show 2 * 0 + _ ≤ _; exact Nat.le_of_eq rfl) (hb hby at_23) (fun _ _ => ⟨rfl, e1, (by decide : 0 + 0 ≤ _), (by decide : 0 + 0 ≤ _)⟩)
  dsimp only [Pt.U, Pt.locs, Pt.cells, Pt.slots] at X2 l2 y2 z2 st2 hQ2
  subst y2 z2
  obtain ⟨rfl, N2q, e2⟩ := hQ2
  have N2 : Fr n0 L2 := by rw [l2]; exact Fr.app N1 N2q
  obtain ⟨_, _, ⟨T3, L3, k3, n3⟩, -, X3, ⟨Lc3, hQ3, l3, y3, z3⟩, st3⟩ := Jvm.LawKit.callS X2 hx (y := (⟨"java/lang/Math", "max", "(II)I"⟩ : MethodName)) hown (mvT hZ (hw _ (List.mem_of_getElem? (i := 10) rfl))) (mvT hZ (hw _ (List.mem_of_getElem? (i := 11) rfl))) (mvT hZ (hw _ (List.mem_of_getElem? (i := 12) rfl))) (mvT hZ (hw _ (List.mem_of_getElem? (i := 13) rfl))) (by decide) (backOf (W := 0) (own_rm2 l Z aA hw [] ((p0 &&& (2147483647 : Int32)) - ((p0 &&& (2147483647 : Int32)) / (6 : Int32)) * (6 : Int32)) ((p1 &&& (2147483647 : Int32)) - ((p1 &&& (2147483647 : Int32)) / (6 : Int32)) * (6 : Int32)) h0 n0 Z0 ) hZ (hw _ (List.mem_of_getElem? (i := 13) rfl)) (hw _ (List.mem_of_getElem? (i := 12) rfl)) (by decide) (by decide)) (g := (mkF m 30 #[.val (.int p0), .val (.int p1), .val (.int ((p0 &&& (2147483647 : Int32)) - ((p0 &&& (2147483647 : Int32)) / (6 : Int32)) * (6 : Int32))), .val (.int ((p1 &&& (2147483647 : Int32)) - ((p1 &&& (2147483647 : Int32)) / (6 : Int32)) * (6 : Int32))), .val (.ref (own_f1_0 ((p0 &&& (2147483647 : Int32)) - ((p0 &&& (2147483647 : Int32)) / (6 : Int32)) * (6 : Int32)) w_SUCCESS w_USAGE w_IO_FAILURE w_UNRECOGNIZED w_DAMAGED w_UNSUPPORTED)), .val (.ref (own_f1_0 ((p1 &&& (2147483647 : Int32)) - ((p1 &&& (2147483647 : Int32)) / (6 : Int32)) * (6 : Int32)) w_SUCCESS w_USAGE w_IO_FAILURE w_UNRECOGNIZED w_DAMAGED w_UNSUPPORTED)), .unset, .unset] [(.int ((p1 &&& (2147483647 : Int32)) - ((p1 &&& (2147483647 : Int32)) / (6 : Int32)) * (6 : Int32))), (.int ((p0 &&& (2147483647 : Int32)) - ((p0 &&& (2147483647 : Int32)) / (6 : Int32)) * (6 : Int32)))])) rfl (by rw [hml]; rfl) (argsL := [(.int ((p0 &&& (2147483647 : Int32)) - ((p0 &&& (2147483647 : Int32)) / (6 : Int32)) * (6 : Int32))), (.int ((p1 &&& (2147483647 : Int32)) - ((p1 &&& (2147483647 : Int32)) / (6 : Int32)) * (6 : Int32)))]) (rest := []) (lenOf own_pd1 rfl) rfl (by show 2 * 0 + _ ≤ _; exact Nat.le_of_eq rfl) (hb hby at_30) (fun _ _ => ⟨rfl, e2, (by decide : 0 + 0 ≤ _), (by decide : 0 + 0 ≤ _)⟩)
  dsimp only [Pt.U, Pt.locs, Pt.cells, Pt.slots] at X3 l3 y3 z3 st3 hQ3
  subst y3 z3
  obtain ⟨rfl, N3q, e3⟩ := hQ3
  have N3 : Fr n0 L3 := by rw [l3]; exact Fr.app N2 N3q
  obtain ⟨_, _, ⟨T4, L4, k4, n4⟩, -, X4, ⟨Lc4, hQ4, l4, y4, z4⟩, st4⟩ := Jvm.LawKit.callS X3 hx (y := (⟨"com/example/rasterline/rasterline/cli/ExitStatusMaxPinLaw", "pick", "(I)Lcom/example/rasterline/rasterline/cli/ExitStatus;"⟩ : MethodName)) hown (mvT hZ (hw _ (List.mem_of_getElem? (i := 1) rfl))) (mvT hZ (hw _ (List.mem_of_getElem? (i := 2) rfl))) (mvT hZ (hw _ (List.mem_of_getElem? (i := 3) rfl))) (mvT hZ (hw _ (List.mem_of_getElem? (i := 4) rfl))) (by decide) (backOf (W := 0) (own_rm1 l Z aA hw [] (own_f2_0 ((p0 &&& (2147483647 : Int32)) - ((p0 &&& (2147483647 : Int32)) / (6 : Int32)) * (6 : Int32)) ((p1 &&& (2147483647 : Int32)) - ((p1 &&& (2147483647 : Int32)) / (6 : Int32)) * (6 : Int32))) w_SUCCESS w_USAGE w_IO_FAILURE w_UNRECOGNIZED w_DAMAGED w_UNSUPPORTED h0 n0 Z0 S_SUCCESS S_USAGE S_IO_FAILURE S_UNRECOGNIZED S_DAMAGED S_UNSUPPORTED) hZ (hw _ (List.mem_of_getElem? (i := 4) rfl)) (hw _ (List.mem_of_getElem? (i := 3) rfl)) (by decide) (by decide)) (g := (mkF m 33 #[.val (.int p0), .val (.int p1), .val (.int ((p0 &&& (2147483647 : Int32)) - ((p0 &&& (2147483647 : Int32)) / (6 : Int32)) * (6 : Int32))), .val (.int ((p1 &&& (2147483647 : Int32)) - ((p1 &&& (2147483647 : Int32)) / (6 : Int32)) * (6 : Int32))), .val (.ref (own_f1_0 ((p0 &&& (2147483647 : Int32)) - ((p0 &&& (2147483647 : Int32)) / (6 : Int32)) * (6 : Int32)) w_SUCCESS w_USAGE w_IO_FAILURE w_UNRECOGNIZED w_DAMAGED w_UNSUPPORTED)), .val (.ref (own_f1_0 ((p1 &&& (2147483647 : Int32)) - ((p1 &&& (2147483647 : Int32)) / (6 : Int32)) * (6 : Int32)) w_SUCCESS w_USAGE w_IO_FAILURE w_UNRECOGNIZED w_DAMAGED w_UNSUPPORTED)), .unset, .unset] [(.int (own_f2_0 ((p0 &&& (2147483647 : Int32)) - ((p0 &&& (2147483647 : Int32)) / (6 : Int32)) * (6 : Int32)) ((p1 &&& (2147483647 : Int32)) - ((p1 &&& (2147483647 : Int32)) / (6 : Int32)) * (6 : Int32))))])) rfl (by rw [hml]; rfl) (argsL := [(.int (own_f2_0 ((p0 &&& (2147483647 : Int32)) - ((p0 &&& (2147483647 : Int32)) / (6 : Int32)) * (6 : Int32)) ((p1 &&& (2147483647 : Int32)) - ((p1 &&& (2147483647 : Int32)) / (6 : Int32)) * (6 : Int32))))]) (rest := []) (lenOf own_pd0 rfl) rfl (by show 2 * 0 + _ ≤ _; exact Nat.le_of_eq rfl) (hb hby at_33) (fun _ _ => ⟨rfl, e3, (by decide : 0 + 0 ≤ _), (by decide : 0 + 0 ≤ _)⟩)
  dsimp only [Pt.U, Pt.locs, Pt.cells, Pt.slots] at X4 l4 y4 z4 st4 hQ4
  subst y4 z4
  obtain ⟨rfl, N4q, e4⟩ := hQ4
  have N4 : Fr n0 L4 := by rw [l4]; exact Fr.app N3 N4q
  obtain ⟨cq5, kq5, q5a, q5b, q5c⟩ := isOf hZ e4 (own_exa HS ((p0 &&& (2147483647 : Int32)) - ((p0 &&& (2147483647 : Int32)) / (6 : Int32)) * (6 : Int32)))
  obtain ⟨_, _, ⟨T5, L5, k5, n5⟩, -, X5, ⟨Lc5, hQ5, l5, y5, z5⟩, st5⟩ := X4.virtualBack hx (y := (⟨"com/example/rasterline/rasterline/cli/ExitStatus", "max", "(Lcom/example/rasterline/rasterline/cli/ExitStatus;)Lcom/example/rasterline/rasterline/cli/ExitStatus;"⟩ : MethodName)) (z := (⟨"com/example/rasterline/rasterline/cli/ExitStatus", "max", "(Lcom/example/rasterline/rasterline/cli/ExitStatus;)Lcom/example/rasterline/rasterline/cli/ExitStatus;"⟩ : MethodName)) hown (mvT hZ (hw _ (List.mem_of_getElem? (i := 14) rfl))) (mvT hZ (hw _ (List.mem_of_getElem? (i := 15) rfl))) (notFace_of_selects (args := #[]) (mvT hZ (hw _ (List.mem_of_getElem? (i := 17) rfl)))) (mvT hZ (hw _ (List.mem_of_getElem? (i := 17) rfl))) (mvT hZ (hw _ (List.mem_of_getElem? (i := 16) rfl))) (by decide) (backOf (W := 0) (own_rm3 l Z aA hw [] (own_f1_0 ((p0 &&& (2147483647 : Int32)) - ((p0 &&& (2147483647 : Int32)) / (6 : Int32)) * (6 : Int32)) w_SUCCESS w_USAGE w_IO_FAILURE w_UNRECOGNIZED w_DAMAGED w_UNSUPPORTED) (own_f1_0 ((p1 &&& (2147483647 : Int32)) - ((p1 &&& (2147483647 : Int32)) / (6 : Int32)) * (6 : Int32)) w_SUCCESS w_USAGE w_IO_FAILURE w_UNRECOGNIZED w_DAMAGED w_UNSUPPORTED) (own_cd ((p0 &&& (2147483647 : Int32)) - ((p0 &&& (2147483647 : Int32)) / (6 : Int32)) * (6 : Int32))) (own_cd ((p1 &&& (2147483647 : Int32)) - ((p1 &&& (2147483647 : Int32)) / (6 : Int32)) * (6 : Int32))) h0 n0 Z0 (own_fld HS ((p0 &&& (2147483647 : Int32)) - ((p0 &&& (2147483647 : Int32)) / (6 : Int32)) * (6 : Int32))) (own_fld HS ((p1 &&& (2147483647 : Int32)) - ((p1 &&& (2147483647 : Int32)) / (6 : Int32)) * (6 : Int32)))) hZ (hw _ (List.mem_of_getElem? (i := 18) rfl)) (hw _ (List.mem_of_getElem? (i := 6) rfl)) (by decide) (by decide)) q5a q5c (g := (mkF m 42 #[.val (.int p0), .val (.int p1), .val (.int ((p0 &&& (2147483647 : Int32)) - ((p0 &&& (2147483647 : Int32)) / (6 : Int32)) * (6 : Int32))), .val (.int ((p1 &&& (2147483647 : Int32)) - ((p1 &&& (2147483647 : Int32)) / (6 : Int32)) * (6 : Int32))), .val (.ref (own_f1_0 ((p0 &&& (2147483647 : Int32)) - ((p0 &&& (2147483647 : Int32)) / (6 : Int32)) * (6 : Int32)) w_SUCCESS w_USAGE w_IO_FAILURE w_UNRECOGNIZED w_DAMAGED w_UNSUPPORTED)), .val (.ref (own_f1_0 ((p1 &&& (2147483647 : Int32)) - ((p1 &&& (2147483647 : Int32)) / (6 : Int32)) * (6 : Int32)) w_SUCCESS w_USAGE w_IO_FAILURE w_UNRECOGNIZED w_DAMAGED w_UNSUPPORTED)), .val (.ref (own_f1_0 (own_f2_0 ((p0 &&& (2147483647 : Int32)) - ((p0 &&& (2147483647 : Int32)) / (6 : Int32)) * (6 : Int32)) ((p1 &&& (2147483647 : Int32)) - ((p1 &&& (2147483647 : Int32)) / (6 : Int32)) * (6 : Int32))) w_SUCCESS w_USAGE w_IO_FAILURE w_UNRECOGNIZED w_DAMAGED w_UNSUPPORTED)), .unset] [(.ref (own_f1_0 ((p1 &&& (2147483647 : Int32)) - ((p1 &&& (2147483647 : Int32)) / (6 : Int32)) * (6 : Int32)) w_SUCCESS w_USAGE w_IO_FAILURE w_UNRECOGNIZED w_DAMAGED w_UNSUPPORTED)), (.ref (own_f1_0 ((p0 &&& (2147483647 : Int32)) - ((p0 &&& (2147483647 : Int32)) / (6 : Int32)) * (6 : Int32)) w_SUCCESS w_USAGE w_IO_FAILURE w_UNRECOGNIZED w_DAMAGED w_UNSUPPORTED))])) rfl (by rw [hml]; rfl) (Steps.refl _) (argsL := [(.ref (own_f1_0 ((p1 &&& (2147483647 : Int32)) - ((p1 &&& (2147483647 : Int32)) / (6 : Int32)) * (6 : Int32)) w_SUCCESS w_USAGE w_IO_FAILURE w_UNRECOGNIZED w_DAMAGED w_UNSUPPORTED))]) (rest := []) (lenOf own_pd2 rfl) rfl (by show 2 * 0 + _ ≤ _; exact Nat.le_of_eq rfl) (hb hby at_42) (fun _ _ => ⟨rfl, e4, (by decide : 0 + 0 ≤ _), (by decide : 0 + 0 ≤ _)⟩)
  dsimp only [Pt.U, Pt.locs, Pt.cells, Pt.slots] at X5 l5 y5 z5 st5 hQ5
  subst y5 z5
  obtain ⟨rfl, N5q, e5⟩ := hQ5
  have N5 : Fr n0 L5 := by rw [l5]; exact Fr.app N4 N5q
  refine Owe.step (T' := T5) (g' := (mkF m 51 #[.val (.int p0), .val (.int p1), .val (.int ((p0 &&& (2147483647 : Int32)) - ((p0 &&& (2147483647 : Int32)) / (6 : Int32)) * (6 : Int32))), .val (.int ((p1 &&& (2147483647 : Int32)) - ((p1 &&& (2147483647 : Int32)) / (6 : Int32)) * (6 : Int32))), .val (.ref (own_f1_0 ((p0 &&& (2147483647 : Int32)) - ((p0 &&& (2147483647 : Int32)) / (6 : Int32)) * (6 : Int32)) w_SUCCESS w_USAGE w_IO_FAILURE w_UNRECOGNIZED w_DAMAGED w_UNSUPPORTED)), .val (.ref (own_f1_0 ((p1 &&& (2147483647 : Int32)) - ((p1 &&& (2147483647 : Int32)) / (6 : Int32)) * (6 : Int32)) w_SUCCESS w_USAGE w_IO_FAILURE w_UNRECOGNIZED w_DAMAGED w_UNSUPPORTED)), .val (.ref (own_f1_0 (own_f2_0 ((p0 &&& (2147483647 : Int32)) - ((p0 &&& (2147483647 : Int32)) / (6 : Int32)) * (6 : Int32)) ((p1 &&& (2147483647 : Int32)) - ((p1 &&& (2147483647 : Int32)) / (6 : Int32)) * (6 : Int32))) w_SUCCESS w_USAGE w_IO_FAILURE w_UNRECOGNIZED w_DAMAGED w_UNSUPPORTED)), .val (.ref (own_f3_0 (own_f1_0 ((p0 &&& (2147483647 : Int32)) - ((p0 &&& (2147483647 : Int32)) / (6 : Int32)) * (6 : Int32)) w_SUCCESS w_USAGE w_IO_FAILURE w_UNRECOGNIZED w_DAMAGED w_UNSUPPORTED) (own_f1_0 ((p1 &&& (2147483647 : Int32)) - ((p1 &&& (2147483647 : Int32)) / (6 : Int32)) * (6 : Int32)) w_SUCCESS w_USAGE w_IO_FAILURE w_UNRECOGNIZED w_DAMAGED w_UNSUPPORTED) (own_cd ((p0 &&& (2147483647 : Int32)) - ((p0 &&& (2147483647 : Int32)) / (6 : Int32)) * (6 : Int32))) (own_cd ((p1 &&& (2147483647 : Int32)) - ((p1 &&& (2147483647 : Int32)) / (6 : Int32)) * (6 : Int32)))))] [(.ref (own_f1_0 (own_f2_0 ((p0 &&& (2147483647 : Int32)) - ((p0 &&& (2147483647 : Int32)) / (6 : Int32)) * (6 : Int32)) ((p1 &&& (2147483647 : Int32)) - ((p1 &&& (2147483647 : Int32)) / (6 : Int32)) * (6 : Int32))) w_SUCCESS w_USAGE w_IO_FAILURE w_UNRECOGNIZED w_DAMAGED w_UNSUPPORTED)), (.ref (own_f3_0 (own_f1_0 ((p0 &&& (2147483647 : Int32)) - ((p0 &&& (2147483647 : Int32)) / (6 : Int32)) * (6 : Int32)) w_SUCCESS w_USAGE w_IO_FAILURE w_UNRECOGNIZED w_DAMAGED w_UNSUPPORTED) (own_f1_0 ((p1 &&& (2147483647 : Int32)) - ((p1 &&& (2147483647 : Int32)) / (6 : Int32)) * (6 : Int32)) w_SUCCESS w_USAGE w_IO_FAILURE w_UNRECOGNIZED w_DAMAGED w_UNSUPPORTED) (own_cd ((p0 &&& (2147483647 : Int32)) - ((p0 &&& (2147483647 : Int32)) / (6 : Int32)) * (6 : Int32))) (own_cd ((p1 &&& (2147483647 : Int32)) - ((p1 &&& (2147483647 : Int32)) / (6 : Int32)) * (6 : Int32)))))])) (fun t k => ?_) ?_
  · show Steps p.tables e below (s₁.setTop (mkF m 0 #[.val (.int p0), .val (.int p1), .unset, .unset, .unset, .unset, .unset, .unset] [])) t
    refine XS.iloadN X0.here hx rfl (hb hby at_0) rfl ?_
    show Steps p.tables e below (s₁.setTop (mkF m 1 #[.val (.int p0), .val (.int p1), .unset, .unset, .unset, .unset, .unset, .unset] [(.int p0)])) t
    refine X0.ldcInt hx hown (mvT hZ (hw _ (List.mem_of_getElem? (i := 0) rfl))) (g := (mkF m 1 #[.val (.int p0), .val (.int p1), .unset, .unset, .unset, .unset, .unset, .unset] [(.int p0)])) rfl (hb hby at_1) _ ?_
    show Steps p.tables e below (s₁.setTop (mkF m 3 #[.val (.int p0), .val (.int p1), .unset, .unset, .unset, .unset, .unset, .unset] [(.int (2147483647 : Int32)), (.int p0)])) t
    refine XS.iand X0.here hx rfl (hb hby at_3) rfl ?_
    show Steps p.tables e below (s₁.setTop (mkF m 4 #[.val (.int p0), .val (.int p1), .unset, .unset, .unset, .unset, .unset, .unset] [(.int (p0 &&& (2147483647 : Int32)))])) t
    refine XS.bipush X0.here hx rfl (hb hby at_4) ?_
    show Steps p.tables e below (s₁.setTop (mkF m 6 #[.val (.int p0), .val (.int p1), .unset, .unset, .unset, .unset, .unset, .unset] [(.int (6 : Int32)), (.int (p0 &&& (2147483647 : Int32)))])) t
    refine XS.irem X0.here hx rfl (hb hby at_6) rfl (by decide) ?_
    show Steps p.tables e below (s₁.setTop (mkF m 7 #[.val (.int p0), .val (.int p1), .unset, .unset, .unset, .unset, .unset, .unset] [(.int ((p0 &&& (2147483647 : Int32)) - ((p0 &&& (2147483647 : Int32)) / (6 : Int32)) * (6 : Int32)))])) t
    refine XS.istoreN X0.here hx rfl (hb hby at_7) rfl (l' := #[.val (.int p0), .val (.int p1), .val (.int ((p0 &&& (2147483647 : Int32)) - ((p0 &&& (2147483647 : Int32)) / (6 : Int32)) * (6 : Int32))), .unset, .unset, .unset, .unset, .unset]) rfl ?_
    show Steps p.tables e below (s₁.setTop (mkF m 8 #[.val (.int p0), .val (.int p1), .val (.int ((p0 &&& (2147483647 : Int32)) - ((p0 &&& (2147483647 : Int32)) / (6 : Int32)) * (6 : Int32))), .unset, .unset, .unset, .unset, .unset] [])) t
    refine XS.iloadN X0.here hx rfl (hb hby at_8) rfl ?_
    show Steps p.tables e below (s₁.setTop (mkF m 9 #[.val (.int p0), .val (.int p1), .val (.int ((p0 &&& (2147483647 : Int32)) - ((p0 &&& (2147483647 : Int32)) / (6 : Int32)) * (6 : Int32))), .unset, .unset, .unset, .unset, .unset] [(.int p1)])) t
    refine X0.ldcInt hx hown (mvT hZ (hw _ (List.mem_of_getElem? (i := 0) rfl))) (g := (mkF m 9 #[.val (.int p0), .val (.int p1), .val (.int ((p0 &&& (2147483647 : Int32)) - ((p0 &&& (2147483647 : Int32)) / (6 : Int32)) * (6 : Int32))), .unset, .unset, .unset, .unset, .unset] [(.int p1)])) rfl (hb hby at_9) _ ?_
    show Steps p.tables e below (s₁.setTop (mkF m 11 #[.val (.int p0), .val (.int p1), .val (.int ((p0 &&& (2147483647 : Int32)) - ((p0 &&& (2147483647 : Int32)) / (6 : Int32)) * (6 : Int32))), .unset, .unset, .unset, .unset, .unset] [(.int (2147483647 : Int32)), (.int p1)])) t
    refine XS.iand X0.here hx rfl (hb hby at_11) rfl ?_
    show Steps p.tables e below (s₁.setTop (mkF m 12 #[.val (.int p0), .val (.int p1), .val (.int ((p0 &&& (2147483647 : Int32)) - ((p0 &&& (2147483647 : Int32)) / (6 : Int32)) * (6 : Int32))), .unset, .unset, .unset, .unset, .unset] [(.int (p1 &&& (2147483647 : Int32)))])) t
    refine XS.bipush X0.here hx rfl (hb hby at_12) ?_
    show Steps p.tables e below (s₁.setTop (mkF m 14 #[.val (.int p0), .val (.int p1), .val (.int ((p0 &&& (2147483647 : Int32)) - ((p0 &&& (2147483647 : Int32)) / (6 : Int32)) * (6 : Int32))), .unset, .unset, .unset, .unset, .unset] [(.int (6 : Int32)), (.int (p1 &&& (2147483647 : Int32)))])) t
    refine XS.irem X0.here hx rfl (hb hby at_14) rfl (by decide) ?_
    show Steps p.tables e below (s₁.setTop (mkF m 15 #[.val (.int p0), .val (.int p1), .val (.int ((p0 &&& (2147483647 : Int32)) - ((p0 &&& (2147483647 : Int32)) / (6 : Int32)) * (6 : Int32))), .unset, .unset, .unset, .unset, .unset] [(.int ((p1 &&& (2147483647 : Int32)) - ((p1 &&& (2147483647 : Int32)) / (6 : Int32)) * (6 : Int32)))])) t
    refine XS.istoreN X0.here hx rfl (hb hby at_15) rfl (l' := #[.val (.int p0), .val (.int p1), .val (.int ((p0 &&& (2147483647 : Int32)) - ((p0 &&& (2147483647 : Int32)) / (6 : Int32)) * (6 : Int32))), .val (.int ((p1 &&& (2147483647 : Int32)) - ((p1 &&& (2147483647 : Int32)) / (6 : Int32)) * (6 : Int32))), .unset, .unset, .unset, .unset]) rfl ?_
    show Steps p.tables e below (s₁.setTop (mkF m 16 #[.val (.int p0), .val (.int p1), .val (.int ((p0 &&& (2147483647 : Int32)) - ((p0 &&& (2147483647 : Int32)) / (6 : Int32)) * (6 : Int32))), .val (.int ((p1 &&& (2147483647 : Int32)) - ((p1 &&& (2147483647 : Int32)) / (6 : Int32)) * (6 : Int32))), .unset, .unset, .unset, .unset] [])) t
    refine XS.iloadN X0.here hx rfl (hb hby at_16) rfl ?_
    show Steps p.tables e below (s₁.setTop (mkF m 17 #[.val (.int p0), .val (.int p1), .val (.int ((p0 &&& (2147483647 : Int32)) - ((p0 &&& (2147483647 : Int32)) / (6 : Int32)) * (6 : Int32))), .val (.int ((p1 &&& (2147483647 : Int32)) - ((p1 &&& (2147483647 : Int32)) / (6 : Int32)) * (6 : Int32))), .unset, .unset, .unset, .unset] [(.int ((p0 &&& (2147483647 : Int32)) - ((p0 &&& (2147483647 : Int32)) / (6 : Int32)) * (6 : Int32)))])) t
    refine st1 _ ?_
    show Steps p.tables e below (T1.setTop (mkF m 20 #[.val (.int p0), .val (.int p1), .val (.int ((p0 &&& (2147483647 : Int32)) - ((p0 &&& (2147483647 : Int32)) / (6 : Int32)) * (6 : Int32))), .val (.int ((p1 &&& (2147483647 : Int32)) - ((p1 &&& (2147483647 : Int32)) / (6 : Int32)) * (6 : Int32))), .unset, .unset, .unset, .unset] [(.ref (own_f1_0 ((p0 &&& (2147483647 : Int32)) - ((p0 &&& (2147483647 : Int32)) / (6 : Int32)) * (6 : Int32)) w_SUCCESS w_USAGE w_IO_FAILURE w_UNRECOGNIZED w_DAMAGED w_UNSUPPORTED))])) t
    refine XS.astore X1.here hx rfl (hb hby at_20) rfl rfl (l' := #[.val (.int p0), .val (.int p1), .val (.int ((p0 &&& (2147483647 : Int32)) - ((p0 &&& (2147483647 : Int32)) / (6 : Int32)) * (6 : Int32))), .val (.int ((p1 &&& (2147483647 : Int32)) - ((p1 &&& (2147483647 : Int32)) / (6 : Int32)) * (6 : Int32))), .val (.ref (own_f1_0 ((p0 &&& (2147483647 : Int32)) - ((p0 &&& (2147483647 : Int32)) / (6 : Int32)) * (6 : Int32)) w_SUCCESS w_USAGE w_IO_FAILURE w_UNRECOGNIZED w_DAMAGED w_UNSUPPORTED)), .unset, .unset, .unset]) rfl ?_
    show Steps p.tables e below (T1.setTop (mkF m 22 #[.val (.int p0), .val (.int p1), .val (.int ((p0 &&& (2147483647 : Int32)) - ((p0 &&& (2147483647 : Int32)) / (6 : Int32)) * (6 : Int32))), .val (.int ((p1 &&& (2147483647 : Int32)) - ((p1 &&& (2147483647 : Int32)) / (6 : Int32)) * (6 : Int32))), .val (.ref (own_f1_0 ((p0 &&& (2147483647 : Int32)) - ((p0 &&& (2147483647 : Int32)) / (6 : Int32)) * (6 : Int32)) w_SUCCESS w_USAGE w_IO_FAILURE w_UNRECOGNIZED w_DAMAGED w_UNSUPPORTED)), .unset, .unset, .unset] [])) t
    refine XS.iloadN X1.here hx rfl (hb hby at_22) rfl ?_
    show Steps p.tables e below (T1.setTop (mkF m 23 #[.val (.int p0), .val (.int p1), .val (.int ((p0 &&& (2147483647 : Int32)) - ((p0 &&& (2147483647 : Int32)) / (6 : Int32)) * (6 : Int32))), .val (.int ((p1 &&& (2147483647 : Int32)) - ((p1 &&& (2147483647 : Int32)) / (6 : Int32)) * (6 : Int32))), .val (.ref (own_f1_0 ((p0 &&& (2147483647 : Int32)) - ((p0 &&& (2147483647 : Int32)) / (6 : Int32)) * (6 : Int32)) w_SUCCESS w_USAGE w_IO_FAILURE w_UNRECOGNIZED w_DAMAGED w_UNSUPPORTED)), .unset, .unset, .unset] [(.int ((p1 &&& (2147483647 : Int32)) - ((p1 &&& (2147483647 : Int32)) / (6 : Int32)) * (6 : Int32)))])) t
    refine st2 _ ?_
    show Steps p.tables e below (T2.setTop (mkF m 26 #[.val (.int p0), .val (.int p1), .val (.int ((p0 &&& (2147483647 : Int32)) - ((p0 &&& (2147483647 : Int32)) / (6 : Int32)) * (6 : Int32))), .val (.int ((p1 &&& (2147483647 : Int32)) - ((p1 &&& (2147483647 : Int32)) / (6 : Int32)) * (6 : Int32))), .val (.ref (own_f1_0 ((p0 &&& (2147483647 : Int32)) - ((p0 &&& (2147483647 : Int32)) / (6 : Int32)) * (6 : Int32)) w_SUCCESS w_USAGE w_IO_FAILURE w_UNRECOGNIZED w_DAMAGED w_UNSUPPORTED)), .unset, .unset, .unset] [(.ref (own_f1_0 ((p1 &&& (2147483647 : Int32)) - ((p1 &&& (2147483647 : Int32)) / (6 : Int32)) * (6 : Int32)) w_SUCCESS w_USAGE w_IO_FAILURE w_UNRECOGNIZED w_DAMAGED w_UNSUPPORTED))])) t
    refine XS.astore X2.here hx rfl (hb hby at_26) rfl rfl (l' := #[.val (.int p0), .val (.int p1), .val (.int ((p0 &&& (2147483647 : Int32)) - ((p0 &&& (2147483647 : Int32)) / (6 : Int32)) * (6 : Int32))), .val (.int ((p1 &&& (2147483647 : Int32)) - ((p1 &&& (2147483647 : Int32)) / (6 : Int32)) * (6 : Int32))), .val (.ref (own_f1_0 ((p0 &&& (2147483647 : Int32)) - ((p0 &&& (2147483647 : Int32)) / (6 : Int32)) * (6 : Int32)) w_SUCCESS w_USAGE w_IO_FAILURE w_UNRECOGNIZED w_DAMAGED w_UNSUPPORTED)), .val (.ref (own_f1_0 ((p1 &&& (2147483647 : Int32)) - ((p1 &&& (2147483647 : Int32)) / (6 : Int32)) * (6 : Int32)) w_SUCCESS w_USAGE w_IO_FAILURE w_UNRECOGNIZED w_DAMAGED w_UNSUPPORTED)), .unset, .unset]) rfl ?_
    show Steps p.tables e below (T2.setTop (mkF m 28 #[.val (.int p0), .val (.int p1), .val (.int ((p0 &&& (2147483647 : Int32)) - ((p0 &&& (2147483647 : Int32)) / (6 : Int32)) * (6 : Int32))), .val (.int ((p1 &&& (2147483647 : Int32)) - ((p1 &&& (2147483647 : Int32)) / (6 : Int32)) * (6 : Int32))), .val (.ref (own_f1_0 ((p0 &&& (2147483647 : Int32)) - ((p0 &&& (2147483647 : Int32)) / (6 : Int32)) * (6 : Int32)) w_SUCCESS w_USAGE w_IO_FAILURE w_UNRECOGNIZED w_DAMAGED w_UNSUPPORTED)), .val (.ref (own_f1_0 ((p1 &&& (2147483647 : Int32)) - ((p1 &&& (2147483647 : Int32)) / (6 : Int32)) * (6 : Int32)) w_SUCCESS w_USAGE w_IO_FAILURE w_UNRECOGNIZED w_DAMAGED w_UNSUPPORTED)), .unset, .unset] [])) t
    refine XS.iloadN X2.here hx rfl (hb hby at_28) rfl ?_
    show Steps p.tables e below (T2.setTop (mkF m 29 #[.val (.int p0), .val (.int p1), .val (.int ((p0 &&& (2147483647 : Int32)) - ((p0 &&& (2147483647 : Int32)) / (6 : Int32)) * (6 : Int32))), .val (.int ((p1 &&& (2147483647 : Int32)) - ((p1 &&& (2147483647 : Int32)) / (6 : Int32)) * (6 : Int32))), .val (.ref (own_f1_0 ((p0 &&& (2147483647 : Int32)) - ((p0 &&& (2147483647 : Int32)) / (6 : Int32)) * (6 : Int32)) w_SUCCESS w_USAGE w_IO_FAILURE w_UNRECOGNIZED w_DAMAGED w_UNSUPPORTED)), .val (.ref (own_f1_0 ((p1 &&& (2147483647 : Int32)) - ((p1 &&& (2147483647 : Int32)) / (6 : Int32)) * (6 : Int32)) w_SUCCESS w_USAGE w_IO_FAILURE w_UNRECOGNIZED w_DAMAGED w_UNSUPPORTED)), .unset, .unset] [(.int ((p0 &&& (2147483647 : Int32)) - ((p0 &&& (2147483647 : Int32)) / (6 : Int32)) * (6 : Int32)))])) t
    refine XS.iloadN X2.here hx rfl (hb hby at_29) rfl ?_
    show Steps p.tables e below (T2.setTop (mkF m 30 #[.val (.int p0), .val (.int p1), .val (.int ((p0 &&& (2147483647 : Int32)) - ((p0 &&& (2147483647 : Int32)) / (6 : Int32)) * (6 : Int32))), .val (.int ((p1 &&& (2147483647 : Int32)) - ((p1 &&& (2147483647 : Int32)) / (6 : Int32)) * (6 : Int32))), .val (.ref (own_f1_0 ((p0 &&& (2147483647 : Int32)) - ((p0 &&& (2147483647 : Int32)) / (6 : Int32)) * (6 : Int32)) w_SUCCESS w_USAGE w_IO_FAILURE w_UNRECOGNIZED w_DAMAGED w_UNSUPPORTED)), .val (.ref (own_f1_0 ((p1 &&& (2147483647 : Int32)) - ((p1 &&& (2147483647 : Int32)) / (6 : Int32)) * (6 : Int32)) w_SUCCESS w_USAGE w_IO_FAILURE w_UNRECOGNIZED w_DAMAGED w_UNSUPPORTED)), .unset, .unset] [(.int ((p1 &&& (2147483647 : Int32)) - ((p1 &&& (2147483647 : Int32)) / (6 : Int32)) * (6 : Int32))), (.int ((p0 &&& (2147483647 : Int32)) - ((p0 &&& (2147483647 : Int32)) / (6 : Int32)) * (6 : Int32)))])) t
    refine st3 _ ?_
    show Steps p.tables e below (T3.setTop (mkF m 33 #[.val (.int p0), .val (.int p1), .val (.int ((p0 &&& (2147483647 : Int32)) - ((p0 &&& (2147483647 : Int32)) / (6 : Int32)) * (6 : Int32))), .val (.int ((p1 &&& (2147483647 : Int32)) - ((p1 &&& (2147483647 : Int32)) / (6 : Int32)) * (6 : Int32))), .val (.ref (own_f1_0 ((p0 &&& (2147483647 : Int32)) - ((p0 &&& (2147483647 : Int32)) / (6 : Int32)) * (6 : Int32)) w_SUCCESS w_USAGE w_IO_FAILURE w_UNRECOGNIZED w_DAMAGED w_UNSUPPORTED)), .val (.ref (own_f1_0 ((p1 &&& (2147483647 : Int32)) - ((p1 &&& (2147483647 : Int32)) / (6 : Int32)) * (6 : Int32)) w_SUCCESS w_USAGE w_IO_FAILURE w_UNRECOGNIZED w_DAMAGED w_UNSUPPORTED)), .unset, .unset] [(.int (own_f2_0 ((p0 &&& (2147483647 : Int32)) - ((p0 &&& (2147483647 : Int32)) / (6 : Int32)) * (6 : Int32)) ((p1 &&& (2147483647 : Int32)) - ((p1 &&& (2147483647 : Int32)) / (6 : Int32)) * (6 : Int32))))])) t
    refine st4 _ ?_
    show Steps p.tables e below (T4.setTop (mkF m 36 #[.val (.int p0), .val (.int p1), .val (.int ((p0 &&& (2147483647 : Int32)) - ((p0 &&& (2147483647 : Int32)) / (6 : Int32)) * (6 : Int32))), .val (.int ((p1 &&& (2147483647 : Int32)) - ((p1 &&& (2147483647 : Int32)) / (6 : Int32)) * (6 : Int32))), .val (.ref (own_f1_0 ((p0 &&& (2147483647 : Int32)) - ((p0 &&& (2147483647 : Int32)) / (6 : Int32)) * (6 : Int32)) w_SUCCESS w_USAGE w_IO_FAILURE w_UNRECOGNIZED w_DAMAGED w_UNSUPPORTED)), .val (.ref (own_f1_0 ((p1 &&& (2147483647 : Int32)) - ((p1 &&& (2147483647 : Int32)) / (6 : Int32)) * (6 : Int32)) w_SUCCESS w_USAGE w_IO_FAILURE w_UNRECOGNIZED w_DAMAGED w_UNSUPPORTED)), .unset, .unset] [(.ref (own_f1_0 (own_f2_0 ((p0 &&& (2147483647 : Int32)) - ((p0 &&& (2147483647 : Int32)) / (6 : Int32)) * (6 : Int32)) ((p1 &&& (2147483647 : Int32)) - ((p1 &&& (2147483647 : Int32)) / (6 : Int32)) * (6 : Int32))) w_SUCCESS w_USAGE w_IO_FAILURE w_UNRECOGNIZED w_DAMAGED w_UNSUPPORTED))])) t
    refine XS.astore X4.here hx rfl (hb hby at_36) rfl rfl (l' := #[.val (.int p0), .val (.int p1), .val (.int ((p0 &&& (2147483647 : Int32)) - ((p0 &&& (2147483647 : Int32)) / (6 : Int32)) * (6 : Int32))), .val (.int ((p1 &&& (2147483647 : Int32)) - ((p1 &&& (2147483647 : Int32)) / (6 : Int32)) * (6 : Int32))), .val (.ref (own_f1_0 ((p0 &&& (2147483647 : Int32)) - ((p0 &&& (2147483647 : Int32)) / (6 : Int32)) * (6 : Int32)) w_SUCCESS w_USAGE w_IO_FAILURE w_UNRECOGNIZED w_DAMAGED w_UNSUPPORTED)), .val (.ref (own_f1_0 ((p1 &&& (2147483647 : Int32)) - ((p1 &&& (2147483647 : Int32)) / (6 : Int32)) * (6 : Int32)) w_SUCCESS w_USAGE w_IO_FAILURE w_UNRECOGNIZED w_DAMAGED w_UNSUPPORTED)), .val (.ref (own_f1_0 (own_f2_0 ((p0 &&& (2147483647 : Int32)) - ((p0 &&& (2147483647 : Int32)) / (6 : Int32)) * (6 : Int32)) ((p1 &&& (2147483647 : Int32)) - ((p1 &&& (2147483647 : Int32)) / (6 : Int32)) * (6 : Int32))) w_SUCCESS w_USAGE w_IO_FAILURE w_UNRECOGNIZED w_DAMAGED w_UNSUPPORTED)), .unset]) rfl ?_
    show Steps p.tables e below (T4.setTop (mkF m 38 #[.val (.int p0), .val (.int p1), .val (.int ((p0 &&& (2147483647 : Int32)) - ((p0 &&& (2147483647 : Int32)) / (6 : Int32)) * (6 : Int32))), .val (.int ((p1 &&& (2147483647 : Int32)) - ((p1 &&& (2147483647 : Int32)) / (6 : Int32)) * (6 : Int32))), .val (.ref (own_f1_0 ((p0 &&& (2147483647 : Int32)) - ((p0 &&& (2147483647 : Int32)) / (6 : Int32)) * (6 : Int32)) w_SUCCESS w_USAGE w_IO_FAILURE w_UNRECOGNIZED w_DAMAGED w_UNSUPPORTED)), .val (.ref (own_f1_0 ((p1 &&& (2147483647 : Int32)) - ((p1 &&& (2147483647 : Int32)) / (6 : Int32)) * (6 : Int32)) w_SUCCESS w_USAGE w_IO_FAILURE w_UNRECOGNIZED w_DAMAGED w_UNSUPPORTED)), .val (.ref (own_f1_0 (own_f2_0 ((p0 &&& (2147483647 : Int32)) - ((p0 &&& (2147483647 : Int32)) / (6 : Int32)) * (6 : Int32)) ((p1 &&& (2147483647 : Int32)) - ((p1 &&& (2147483647 : Int32)) / (6 : Int32)) * (6 : Int32))) w_SUCCESS w_USAGE w_IO_FAILURE w_UNRECOGNIZED w_DAMAGED w_UNSUPPORTED)), .unset] [])) t
    refine XS.aload X4.here hx rfl (hb hby at_38) rfl rfl ?_
    show Steps p.tables e below (T4.setTop (mkF m 40 #[.val (.int p0), .val (.int p1), .val (.int ((p0 &&& (2147483647 : Int32)) - ((p0 &&& (2147483647 : Int32)) / (6 : Int32)) * (6 : Int32))), .val (.int ((p1 &&& (2147483647 : Int32)) - ((p1 &&& (2147483647 : Int32)) / (6 : Int32)) * (6 : Int32))), .val (.ref (own_f1_0 ((p0 &&& (2147483647 : Int32)) - ((p0 &&& (2147483647 : Int32)) / (6 : Int32)) * (6 : Int32)) w_SUCCESS w_USAGE w_IO_FAILURE w_UNRECOGNIZED w_DAMAGED w_UNSUPPORTED)), .val (.ref (own_f1_0 ((p1 &&& (2147483647 : Int32)) - ((p1 &&& (2147483647 : Int32)) / (6 : Int32)) * (6 : Int32)) w_SUCCESS w_USAGE w_IO_FAILURE w_UNRECOGNIZED w_DAMAGED w_UNSUPPORTED)), .val (.ref (own_f1_0 (own_f2_0 ((p0 &&& (2147483647 : Int32)) - ((p0 &&& (2147483647 : Int32)) / (6 : Int32)) * (6 : Int32)) ((p1 &&& (2147483647 : Int32)) - ((p1 &&& (2147483647 : Int32)) / (6 : Int32)) * (6 : Int32))) w_SUCCESS w_USAGE w_IO_FAILURE w_UNRECOGNIZED w_DAMAGED w_UNSUPPORTED)), .unset] [(.ref (own_f1_0 ((p0 &&& (2147483647 : Int32)) - ((p0 &&& (2147483647 : Int32)) / (6 : Int32)) * (6 : Int32)) w_SUCCESS w_USAGE w_IO_FAILURE w_UNRECOGNIZED w_DAMAGED w_UNSUPPORTED))])) t
    refine XS.aload X4.here hx rfl (hb hby at_40) rfl rfl ?_
    show Steps p.tables e below (T4.setTop (mkF m 42 #[.val (.int p0), .val (.int p1), .val (.int ((p0 &&& (2147483647 : Int32)) - ((p0 &&& (2147483647 : Int32)) / (6 : Int32)) * (6 : Int32))), .val (.int ((p1 &&& (2147483647 : Int32)) - ((p1 &&& (2147483647 : Int32)) / (6 : Int32)) * (6 : Int32))), .val (.ref (own_f1_0 ((p0 &&& (2147483647 : Int32)) - ((p0 &&& (2147483647 : Int32)) / (6 : Int32)) * (6 : Int32)) w_SUCCESS w_USAGE w_IO_FAILURE w_UNRECOGNIZED w_DAMAGED w_UNSUPPORTED)), .val (.ref (own_f1_0 ((p1 &&& (2147483647 : Int32)) - ((p1 &&& (2147483647 : Int32)) / (6 : Int32)) * (6 : Int32)) w_SUCCESS w_USAGE w_IO_FAILURE w_UNRECOGNIZED w_DAMAGED w_UNSUPPORTED)), .val (.ref (own_f1_0 (own_f2_0 ((p0 &&& (2147483647 : Int32)) - ((p0 &&& (2147483647 : Int32)) / (6 : Int32)) * (6 : Int32)) ((p1 &&& (2147483647 : Int32)) - ((p1 &&& (2147483647 : Int32)) / (6 : Int32)) * (6 : Int32))) w_SUCCESS w_USAGE w_IO_FAILURE w_UNRECOGNIZED w_DAMAGED w_UNSUPPORTED)), .unset] [(.ref (own_f1_0 ((p1 &&& (2147483647 : Int32)) - ((p1 &&& (2147483647 : Int32)) / (6 : Int32)) * (6 : Int32)) w_SUCCESS w_USAGE w_IO_FAILURE w_UNRECOGNIZED w_DAMAGED w_UNSUPPORTED)), (.ref (own_f1_0 ((p0 &&& (2147483647 : Int32)) - ((p0 &&& (2147483647 : Int32)) / (6 : Int32)) * (6 : Int32)) w_SUCCESS w_USAGE w_IO_FAILURE w_UNRECOGNIZED w_DAMAGED w_UNSUPPORTED))])) t
    refine st5.trans ?_
    show Steps p.tables e below (T5.setTop (mkF m 45 #[.val (.int p0), .val (.int p1), .val (.int ((p0 &&& (2147483647 : Int32)) - ((p0 &&& (2147483647 : Int32)) / (6 : Int32)) * (6 : Int32))), .val (.int ((p1 &&& (2147483647 : Int32)) - ((p1 &&& (2147483647 : Int32)) / (6 : Int32)) * (6 : Int32))), .val (.ref (own_f1_0 ((p0 &&& (2147483647 : Int32)) - ((p0 &&& (2147483647 : Int32)) / (6 : Int32)) * (6 : Int32)) w_SUCCESS w_USAGE w_IO_FAILURE w_UNRECOGNIZED w_DAMAGED w_UNSUPPORTED)), .val (.ref (own_f1_0 ((p1 &&& (2147483647 : Int32)) - ((p1 &&& (2147483647 : Int32)) / (6 : Int32)) * (6 : Int32)) w_SUCCESS w_USAGE w_IO_FAILURE w_UNRECOGNIZED w_DAMAGED w_UNSUPPORTED)), .val (.ref (own_f1_0 (own_f2_0 ((p0 &&& (2147483647 : Int32)) - ((p0 &&& (2147483647 : Int32)) / (6 : Int32)) * (6 : Int32)) ((p1 &&& (2147483647 : Int32)) - ((p1 &&& (2147483647 : Int32)) / (6 : Int32)) * (6 : Int32))) w_SUCCESS w_USAGE w_IO_FAILURE w_UNRECOGNIZED w_DAMAGED w_UNSUPPORTED)), .unset] [(.ref (own_f3_0 (own_f1_0 ((p0 &&& (2147483647 : Int32)) - ((p0 &&& (2147483647 : Int32)) / (6 : Int32)) * (6 : Int32)) w_SUCCESS w_USAGE w_IO_FAILURE w_UNRECOGNIZED w_DAMAGED w_UNSUPPORTED) (own_f1_0 ((p1 &&& (2147483647 : Int32)) - ((p1 &&& (2147483647 : Int32)) / (6 : Int32)) * (6 : Int32)) w_SUCCESS w_USAGE w_IO_FAILURE w_UNRECOGNIZED w_DAMAGED w_UNSUPPORTED) (own_cd ((p0 &&& (2147483647 : Int32)) - ((p0 &&& (2147483647 : Int32)) / (6 : Int32)) * (6 : Int32))) (own_cd ((p1 &&& (2147483647 : Int32)) - ((p1 &&& (2147483647 : Int32)) / (6 : Int32)) * (6 : Int32)))))])) t
    refine XS.astore X5.here hx rfl (hb hby at_45) rfl rfl (l' := #[.val (.int p0), .val (.int p1), .val (.int ((p0 &&& (2147483647 : Int32)) - ((p0 &&& (2147483647 : Int32)) / (6 : Int32)) * (6 : Int32))), .val (.int ((p1 &&& (2147483647 : Int32)) - ((p1 &&& (2147483647 : Int32)) / (6 : Int32)) * (6 : Int32))), .val (.ref (own_f1_0 ((p0 &&& (2147483647 : Int32)) - ((p0 &&& (2147483647 : Int32)) / (6 : Int32)) * (6 : Int32)) w_SUCCESS w_USAGE w_IO_FAILURE w_UNRECOGNIZED w_DAMAGED w_UNSUPPORTED)), .val (.ref (own_f1_0 ((p1 &&& (2147483647 : Int32)) - ((p1 &&& (2147483647 : Int32)) / (6 : Int32)) * (6 : Int32)) w_SUCCESS w_USAGE w_IO_FAILURE w_UNRECOGNIZED w_DAMAGED w_UNSUPPORTED)), .val (.ref (own_f1_0 (own_f2_0 ((p0 &&& (2147483647 : Int32)) - ((p0 &&& (2147483647 : Int32)) / (6 : Int32)) * (6 : Int32)) ((p1 &&& (2147483647 : Int32)) - ((p1 &&& (2147483647 : Int32)) / (6 : Int32)) * (6 : Int32))) w_SUCCESS w_USAGE w_IO_FAILURE w_UNRECOGNIZED w_DAMAGED w_UNSUPPORTED)), .val (.ref (own_f3_0 (own_f1_0 ((p0 &&& (2147483647 : Int32)) - ((p0 &&& (2147483647 : Int32)) / (6 : Int32)) * (6 : Int32)) w_SUCCESS w_USAGE w_IO_FAILURE w_UNRECOGNIZED w_DAMAGED w_UNSUPPORTED) (own_f1_0 ((p1 &&& (2147483647 : Int32)) - ((p1 &&& (2147483647 : Int32)) / (6 : Int32)) * (6 : Int32)) w_SUCCESS w_USAGE w_IO_FAILURE w_UNRECOGNIZED w_DAMAGED w_UNSUPPORTED) (own_cd ((p0 &&& (2147483647 : Int32)) - ((p0 &&& (2147483647 : Int32)) / (6 : Int32)) * (6 : Int32))) (own_cd ((p1 &&& (2147483647 : Int32)) - ((p1 &&& (2147483647 : Int32)) / (6 : Int32)) * (6 : Int32)))))]) rfl ?_
    show Steps p.tables e below (T5.setTop (mkF m 47 #[.val (.int p0), .val (.int p1), .val (.int ((p0 &&& (2147483647 : Int32)) - ((p0 &&& (2147483647 : Int32)) / (6 : Int32)) * (6 : Int32))), .val (.int ((p1 &&& (2147483647 : Int32)) - ((p1 &&& (2147483647 : Int32)) / (6 : Int32)) * (6 : Int32))), .val (.ref (own_f1_0 ((p0 &&& (2147483647 : Int32)) - ((p0 &&& (2147483647 : Int32)) / (6 : Int32)) * (6 : Int32)) w_SUCCESS w_USAGE w_IO_FAILURE w_UNRECOGNIZED w_DAMAGED w_UNSUPPORTED)), .val (.ref (own_f1_0 ((p1 &&& (2147483647 : Int32)) - ((p1 &&& (2147483647 : Int32)) / (6 : Int32)) * (6 : Int32)) w_SUCCESS w_USAGE w_IO_FAILURE w_UNRECOGNIZED w_DAMAGED w_UNSUPPORTED)), .val (.ref (own_f1_0 (own_f2_0 ((p0 &&& (2147483647 : Int32)) - ((p0 &&& (2147483647 : Int32)) / (6 : Int32)) * (6 : Int32)) ((p1 &&& (2147483647 : Int32)) - ((p1 &&& (2147483647 : Int32)) / (6 : Int32)) * (6 : Int32))) w_SUCCESS w_USAGE w_IO_FAILURE w_UNRECOGNIZED w_DAMAGED w_UNSUPPORTED)), .val (.ref (own_f3_0 (own_f1_0 ((p0 &&& (2147483647 : Int32)) - ((p0 &&& (2147483647 : Int32)) / (6 : Int32)) * (6 : Int32)) w_SUCCESS w_USAGE w_IO_FAILURE w_UNRECOGNIZED w_DAMAGED w_UNSUPPORTED) (own_f1_0 ((p1 &&& (2147483647 : Int32)) - ((p1 &&& (2147483647 : Int32)) / (6 : Int32)) * (6 : Int32)) w_SUCCESS w_USAGE w_IO_FAILURE w_UNRECOGNIZED w_DAMAGED w_UNSUPPORTED) (own_cd ((p0 &&& (2147483647 : Int32)) - ((p0 &&& (2147483647 : Int32)) / (6 : Int32)) * (6 : Int32))) (own_cd ((p1 &&& (2147483647 : Int32)) - ((p1 &&& (2147483647 : Int32)) / (6 : Int32)) * (6 : Int32)))))] [])) t
    refine XS.aload X5.here hx rfl (hb hby at_47) rfl rfl ?_
    show Steps p.tables e below (T5.setTop (mkF m 49 #[.val (.int p0), .val (.int p1), .val (.int ((p0 &&& (2147483647 : Int32)) - ((p0 &&& (2147483647 : Int32)) / (6 : Int32)) * (6 : Int32))), .val (.int ((p1 &&& (2147483647 : Int32)) - ((p1 &&& (2147483647 : Int32)) / (6 : Int32)) * (6 : Int32))), .val (.ref (own_f1_0 ((p0 &&& (2147483647 : Int32)) - ((p0 &&& (2147483647 : Int32)) / (6 : Int32)) * (6 : Int32)) w_SUCCESS w_USAGE w_IO_FAILURE w_UNRECOGNIZED w_DAMAGED w_UNSUPPORTED)), .val (.ref (own_f1_0 ((p1 &&& (2147483647 : Int32)) - ((p1 &&& (2147483647 : Int32)) / (6 : Int32)) * (6 : Int32)) w_SUCCESS w_USAGE w_IO_FAILURE w_UNRECOGNIZED w_DAMAGED w_UNSUPPORTED)), .val (.ref (own_f1_0 (own_f2_0 ((p0 &&& (2147483647 : Int32)) - ((p0 &&& (2147483647 : Int32)) / (6 : Int32)) * (6 : Int32)) ((p1 &&& (2147483647 : Int32)) - ((p1 &&& (2147483647 : Int32)) / (6 : Int32)) * (6 : Int32))) w_SUCCESS w_USAGE w_IO_FAILURE w_UNRECOGNIZED w_DAMAGED w_UNSUPPORTED)), .val (.ref (own_f3_0 (own_f1_0 ((p0 &&& (2147483647 : Int32)) - ((p0 &&& (2147483647 : Int32)) / (6 : Int32)) * (6 : Int32)) w_SUCCESS w_USAGE w_IO_FAILURE w_UNRECOGNIZED w_DAMAGED w_UNSUPPORTED) (own_f1_0 ((p1 &&& (2147483647 : Int32)) - ((p1 &&& (2147483647 : Int32)) / (6 : Int32)) * (6 : Int32)) w_SUCCESS w_USAGE w_IO_FAILURE w_UNRECOGNIZED w_DAMAGED w_UNSUPPORTED) (own_cd ((p0 &&& (2147483647 : Int32)) - ((p0 &&& (2147483647 : Int32)) / (6 : Int32)) * (6 : Int32))) (own_cd ((p1 &&& (2147483647 : Int32)) - ((p1 &&& (2147483647 : Int32)) / (6 : Int32)) * (6 : Int32)))))] [(.ref (own_f3_0 (own_f1_0 ((p0 &&& (2147483647 : Int32)) - ((p0 &&& (2147483647 : Int32)) / (6 : Int32)) * (6 : Int32)) w_SUCCESS w_USAGE w_IO_FAILURE w_UNRECOGNIZED w_DAMAGED w_UNSUPPORTED) (own_f1_0 ((p1 &&& (2147483647 : Int32)) - ((p1 &&& (2147483647 : Int32)) / (6 : Int32)) * (6 : Int32)) w_SUCCESS w_USAGE w_IO_FAILURE w_UNRECOGNIZED w_DAMAGED w_UNSUPPORTED) (own_cd ((p0 &&& (2147483647 : Int32)) - ((p0 &&& (2147483647 : Int32)) / (6 : Int32)) * (6 : Int32))) (own_cd ((p1 &&& (2147483647 : Int32)) - ((p1 &&& (2147483647 : Int32)) / (6 : Int32)) * (6 : Int32)))))])) t
    refine XS.aload X5.here hx rfl (hb hby at_49) rfl rfl ?_
    show Steps p.tables e below (T5.setTop (mkF m 51 #[.val (.int p0), .val (.int p1), .val (.int ((p0 &&& (2147483647 : Int32)) - ((p0 &&& (2147483647 : Int32)) / (6 : Int32)) * (6 : Int32))), .val (.int ((p1 &&& (2147483647 : Int32)) - ((p1 &&& (2147483647 : Int32)) / (6 : Int32)) * (6 : Int32))), .val (.ref (own_f1_0 ((p0 &&& (2147483647 : Int32)) - ((p0 &&& (2147483647 : Int32)) / (6 : Int32)) * (6 : Int32)) w_SUCCESS w_USAGE w_IO_FAILURE w_UNRECOGNIZED w_DAMAGED w_UNSUPPORTED)), .val (.ref (own_f1_0 ((p1 &&& (2147483647 : Int32)) - ((p1 &&& (2147483647 : Int32)) / (6 : Int32)) * (6 : Int32)) w_SUCCESS w_USAGE w_IO_FAILURE w_UNRECOGNIZED w_DAMAGED w_UNSUPPORTED)), .val (.ref (own_f1_0 (own_f2_0 ((p0 &&& (2147483647 : Int32)) - ((p0 &&& (2147483647 : Int32)) / (6 : Int32)) * (6 : Int32)) ((p1 &&& (2147483647 : Int32)) - ((p1 &&& (2147483647 : Int32)) / (6 : Int32)) * (6 : Int32))) w_SUCCESS w_USAGE w_IO_FAILURE w_UNRECOGNIZED w_DAMAGED w_UNSUPPORTED)), .val (.ref (own_f3_0 (own_f1_0 ((p0 &&& (2147483647 : Int32)) - ((p0 &&& (2147483647 : Int32)) / (6 : Int32)) * (6 : Int32)) w_SUCCESS w_USAGE w_IO_FAILURE w_UNRECOGNIZED w_DAMAGED w_UNSUPPORTED) (own_f1_0 ((p1 &&& (2147483647 : Int32)) - ((p1 &&& (2147483647 : Int32)) / (6 : Int32)) * (6 : Int32)) w_SUCCESS w_USAGE w_IO_FAILURE w_UNRECOGNIZED w_DAMAGED w_UNSUPPORTED) (own_cd ((p0 &&& (2147483647 : Int32)) - ((p0 &&& (2147483647 : Int32)) / (6 : Int32)) * (6 : Int32))) (own_cd ((p1 &&& (2147483647 : Int32)) - ((p1 &&& (2147483647 : Int32)) / (6 : Int32)) * (6 : Int32)))))] [(.ref (own_f1_0 (own_f2_0 ((p0 &&& (2147483647 : Int32)) - ((p0 &&& (2147483647 : Int32)) / (6 : Int32)) * (6 : Int32)) ((p1 &&& (2147483647 : Int32)) - ((p1 &&& (2147483647 : Int32)) / (6 : Int32)) * (6 : Int32))) w_SUCCESS w_USAGE w_IO_FAILURE w_UNRECOGNIZED w_DAMAGED w_UNSUPPORTED)), (.ref (own_f3_0 (own_f1_0 ((p0 &&& (2147483647 : Int32)) - ((p0 &&& (2147483647 : Int32)) / (6 : Int32)) * (6 : Int32)) w_SUCCESS w_USAGE w_IO_FAILURE w_UNRECOGNIZED w_DAMAGED w_UNSUPPORTED) (own_f1_0 ((p1 &&& (2147483647 : Int32)) - ((p1 &&& (2147483647 : Int32)) / (6 : Int32)) * (6 : Int32)) w_SUCCESS w_USAGE w_IO_FAILURE w_UNRECOGNIZED w_DAMAGED w_UNSUPPORTED) (own_cd ((p0 &&& (2147483647 : Int32)) - ((p0 &&& (2147483647 : Int32)) / (6 : Int32)) * (6 : Int32))) (own_cd ((p1 &&& (2147483647 : Int32)) - ((p1 &&& (2147483647 : Int32)) / (6 : Int32)) * (6 : Int32)))))])) t
    exact k
  by_cases hc51 : (own_f3_0 (own_f1_0 ((p0 &&& (2147483647 : Int32)) - ((p0 &&& (2147483647 : Int32)) / (6 : Int32)) * (6 : Int32)) w_SUCCESS w_USAGE w_IO_FAILURE w_UNRECOGNIZED w_DAMAGED w_UNSUPPORTED) (own_f1_0 ((p1 &&& (2147483647 : Int32)) - ((p1 &&& (2147483647 : Int32)) / (6 : Int32)) * (6 : Int32)) w_SUCCESS w_USAGE w_IO_FAILURE w_UNRECOGNIZED w_DAMAGED w_UNSUPPORTED) (own_cd ((p0 &&& (2147483647 : Int32)) - ((p0 &&& (2147483647 : Int32)) / (6 : Int32)) * (6 : Int32))) (own_cd ((p1 &&& (2147483647 : Int32)) - ((p1 &&& (2147483647 : Int32)) / (6 : Int32)) * (6 : Int32)))) = (own_f1_0 (own_f2_0 ((p0 &&& (2147483647 : Int32)) - ((p0 &&& (2147483647 : Int32)) / (6 : Int32)) * (6 : Int32)) ((p1 &&& (2147483647 : Int32)) - ((p1 &&& (2147483647 : Int32)) / (6 : Int32)) * (6 : Int32))) w_SUCCESS w_USAGE w_IO_FAILURE w_UNRECOGNIZED w_DAMAGED w_UNSUPPORTED)
  · refine Owe.step (T' := T5) (g' := (mkF m 54 #[.val (.int p0), .val (.int p1), .val (.int ((p0 &&& (2147483647 : Int32)) - ((p0 &&& (2147483647 : Int32)) / (6 : Int32)) * (6 : Int32))), .val (.int ((p1 &&& (2147483647 : Int32)) - ((p1 &&& (2147483647 : Int32)) / (6 : Int32)) * (6 : Int32))), .val (.ref (own_f1_0 ((p0 &&& (2147483647 : Int32)) - ((p0 &&& (2147483647 : Int32)) / (6 : Int32)) * (6 : Int32)) w_SUCCESS w_USAGE w_IO_FAILURE w_UNRECOGNIZED w_DAMAGED w_UNSUPPORTED)), .val (.ref (own_f1_0 ((p1 &&& (2147483647 : Int32)) - ((p1 &&& (2147483647 : Int32)) / (6 : Int32)) * (6 : Int32)) w_SUCCESS w_USAGE w_IO_FAILURE w_UNRECOGNIZED w_DAMAGED w_UNSUPPORTED)), .val (.ref (own_f1_0 (own_f2_0 ((p0 &&& (2147483647 : Int32)) - ((p0 &&& (2147483647 : Int32)) / (6 : Int32)) * (6 : Int32)) ((p1 &&& (2147483647 : Int32)) - ((p1 &&& (2147483647 : Int32)) / (6 : Int32)) * (6 : Int32))) w_SUCCESS w_USAGE w_IO_FAILURE w_UNRECOGNIZED w_DAMAGED w_UNSUPPORTED)), .val (.ref (own_f3_0 (own_f1_0 ((p0 &&& (2147483647 : Int32)) - ((p0 &&& (2147483647 : Int32)) / (6 : Int32)) * (6 : Int32)) w_SUCCESS w_USAGE w_IO_FAILURE w_UNRECOGNIZED w_DAMAGED w_UNSUPPORTED) (own_f1_0 ((p1 &&& (2147483647 : Int32)) - ((p1 &&& (2147483647 : Int32)) / (6 : Int32)) * (6 : Int32)) w_SUCCESS w_USAGE w_IO_FAILURE w_UNRECOGNIZED w_DAMAGED w_UNSUPPORTED) (own_cd ((p0 &&& (2147483647 : Int32)) - ((p0 &&& (2147483647 : Int32)) / (6 : Int32)) * (6 : Int32))) (own_cd ((p1 &&& (2147483647 : Int32)) - ((p1 &&& (2147483647 : Int32)) / (6 : Int32)) * (6 : Int32)))))] [])) (fun t k => ?_) ?_
    · show Steps p.tables e below (T5.setTop (mkF m 51 #[.val (.int p0), .val (.int p1), .val (.int ((p0 &&& (2147483647 : Int32)) - ((p0 &&& (2147483647 : Int32)) / (6 : Int32)) * (6 : Int32))), .val (.int ((p1 &&& (2147483647 : Int32)) - ((p1 &&& (2147483647 : Int32)) / (6 : Int32)) * (6 : Int32))), .val (.ref (own_f1_0 ((p0 &&& (2147483647 : Int32)) - ((p0 &&& (2147483647 : Int32)) / (6 : Int32)) * (6 : Int32)) w_SUCCESS w_USAGE w_IO_FAILURE w_UNRECOGNIZED w_DAMAGED w_UNSUPPORTED)), .val (.ref (own_f1_0 ((p1 &&& (2147483647 : Int32)) - ((p1 &&& (2147483647 : Int32)) / (6 : Int32)) * (6 : Int32)) w_SUCCESS w_USAGE w_IO_FAILURE w_UNRECOGNIZED w_DAMAGED w_UNSUPPORTED)), .val (.ref (own_f1_0 (own_f2_0 ((p0 &&& (2147483647 : Int32)) - ((p0 &&& (2147483647 : Int32)) / (6 : Int32)) * (6 : Int32)) ((p1 &&& (2147483647 : Int32)) - ((p1 &&& (2147483647 : Int32)) / (6 : Int32)) * (6 : Int32))) w_SUCCESS w_USAGE w_IO_FAILURE w_UNRECOGNIZED w_DAMAGED w_UNSUPPORTED)), .val (.ref (own_f3_0 (own_f1_0 ((p0 &&& (2147483647 : Int32)) - ((p0 &&& (2147483647 : Int32)) / (6 : Int32)) * (6 : Int32)) w_SUCCESS w_USAGE w_IO_FAILURE w_UNRECOGNIZED w_DAMAGED w_UNSUPPORTED) (own_f1_0 ((p1 &&& (2147483647 : Int32)) - ((p1 &&& (2147483647 : Int32)) / (6 : Int32)) * (6 : Int32)) w_SUCCESS w_USAGE w_IO_FAILURE w_UNRECOGNIZED w_DAMAGED w_UNSUPPORTED) (own_cd ((p0 &&& (2147483647 : Int32)) - ((p0 &&& (2147483647 : Int32)) / (6 : Int32)) * (6 : Int32))) (own_cd ((p1 &&& (2147483647 : Int32)) - ((p1 &&& (2147483647 : Int32)) / (6 : Int32)) * (6 : Int32)))))] [(.ref (own_f1_0 (own_f2_0 ((p0 &&& (2147483647 : Int32)) - ((p0 &&& (2147483647 : Int32)) / (6 : Int32)) * (6 : Int32)) ((p1 &&& (2147483647 : Int32)) - ((p1 &&& (2147483647 : Int32)) / (6 : Int32)) * (6 : Int32))) w_SUCCESS w_USAGE w_IO_FAILURE w_UNRECOGNIZED w_DAMAGED w_UNSUPPORTED)), (.ref (own_f3_0 (own_f1_0 ((p0 &&& (2147483647 : Int32)) - ((p0 &&& (2147483647 : Int32)) / (6 : Int32)) * (6 : Int32)) w_SUCCESS w_USAGE w_IO_FAILURE w_UNRECOGNIZED w_DAMAGED w_UNSUPPORTED) (own_f1_0 ((p1 &&& (2147483647 : Int32)) - ((p1 &&& (2147483647 : Int32)) / (6 : Int32)) * (6 : Int32)) w_SUCCESS w_USAGE w_IO_FAILURE w_UNRECOGNIZED w_DAMAGED w_UNSUPPORTED) (own_cd ((p0 &&& (2147483647 : Int32)) - ((p0 &&& (2147483647 : Int32)) / (6 : Int32)) * (6 : Int32))) (own_cd ((p1 &&& (2147483647 : Int32)) - ((p1 &&& (2147483647 : Int32)) / (6 : Int32)) * (6 : Int32)))))])) t
      refine Jvm.RoadKit.acmp (g := (mkF m 51 #[.val (.int p0), .val (.int p1), .val (.int ((p0 &&& (2147483647 : Int32)) - ((p0 &&& (2147483647 : Int32)) / (6 : Int32)) * (6 : Int32))), .val (.int ((p1 &&& (2147483647 : Int32)) - ((p1 &&& (2147483647 : Int32)) / (6 : Int32)) * (6 : Int32))), .val (.ref (own_f1_0 ((p0 &&& (2147483647 : Int32)) - ((p0 &&& (2147483647 : Int32)) / (6 : Int32)) * (6 : Int32)) w_SUCCESS w_USAGE w_IO_FAILURE w_UNRECOGNIZED w_DAMAGED w_UNSUPPORTED)), .val (.ref (own_f1_0 ((p1 &&& (2147483647 : Int32)) - ((p1 &&& (2147483647 : Int32)) / (6 : Int32)) * (6 : Int32)) w_SUCCESS w_USAGE w_IO_FAILURE w_UNRECOGNIZED w_DAMAGED w_UNSUPPORTED)), .val (.ref (own_f1_0 (own_f2_0 ((p0 &&& (2147483647 : Int32)) - ((p0 &&& (2147483647 : Int32)) / (6 : Int32)) * (6 : Int32)) ((p1 &&& (2147483647 : Int32)) - ((p1 &&& (2147483647 : Int32)) / (6 : Int32)) * (6 : Int32))) w_SUCCESS w_USAGE w_IO_FAILURE w_UNRECOGNIZED w_DAMAGED w_UNSUPPORTED)), .val (.ref (own_f3_0 (own_f1_0 ((p0 &&& (2147483647 : Int32)) - ((p0 &&& (2147483647 : Int32)) / (6 : Int32)) * (6 : Int32)) w_SUCCESS w_USAGE w_IO_FAILURE w_UNRECOGNIZED w_DAMAGED w_UNSUPPORTED) (own_f1_0 ((p1 &&& (2147483647 : Int32)) - ((p1 &&& (2147483647 : Int32)) / (6 : Int32)) * (6 : Int32)) w_SUCCESS w_USAGE w_IO_FAILURE w_UNRECOGNIZED w_DAMAGED w_UNSUPPORTED) (own_cd ((p0 &&& (2147483647 : Int32)) - ((p0 &&& (2147483647 : Int32)) / (6 : Int32)) * (6 : Int32))) (own_cd ((p1 &&& (2147483647 : Int32)) - ((p1 &&& (2147483647 : Int32)) / (6 : Int32)) * (6 : Int32)))))] [(.ref (own_f1_0 (own_f2_0 ((p0 &&& (2147483647 : Int32)) - ((p0 &&& (2147483647 : Int32)) / (6 : Int32)) * (6 : Int32)) ((p1 &&& (2147483647 : Int32)) - ((p1 &&& (2147483647 : Int32)) / (6 : Int32)) * (6 : Int32))) w_SUCCESS w_USAGE w_IO_FAILURE w_UNRECOGNIZED w_DAMAGED w_UNSUPPORTED)), (.ref (own_f3_0 (own_f1_0 ((p0 &&& (2147483647 : Int32)) - ((p0 &&& (2147483647 : Int32)) / (6 : Int32)) * (6 : Int32)) w_SUCCESS w_USAGE w_IO_FAILURE w_UNRECOGNIZED w_DAMAGED w_UNSUPPORTED) (own_f1_0 ((p1 &&& (2147483647 : Int32)) - ((p1 &&& (2147483647 : Int32)) / (6 : Int32)) * (6 : Int32)) w_SUCCESS w_USAGE w_IO_FAILURE w_UNRECOGNIZED w_DAMAGED w_UNSUPPORTED) (own_cd ((p0 &&& (2147483647 : Int32)) - ((p0 &&& (2147483647 : Int32)) / (6 : Int32)) * (6 : Int32))) (own_cd ((p1 &&& (2147483647 : Int32)) - ((p1 &&& (2147483647 : Int32)) / (6 : Int32)) * (6 : Int32)))))])) X5 hx rfl rfl rfl (pc0 := 51) (pc' := 54) (same := true) rfl (hb hby at_51) rfl (decide_eq_true (congrArg Value.ref hc51)) (by decide) (by decide) ?_
      show Steps p.tables e below (T5.setTop (mkF m 54 #[.val (.int p0), .val (.int p1), .val (.int ((p0 &&& (2147483647 : Int32)) - ((p0 &&& (2147483647 : Int32)) / (6 : Int32)) * (6 : Int32))), .val (.int ((p1 &&& (2147483647 : Int32)) - ((p1 &&& (2147483647 : Int32)) / (6 : Int32)) * (6 : Int32))), .val (.ref (own_f1_0 ((p0 &&& (2147483647 : Int32)) - ((p0 &&& (2147483647 : Int32)) / (6 : Int32)) * (6 : Int32)) w_SUCCESS w_USAGE w_IO_FAILURE w_UNRECOGNIZED w_DAMAGED w_UNSUPPORTED)), .val (.ref (own_f1_0 ((p1 &&& (2147483647 : Int32)) - ((p1 &&& (2147483647 : Int32)) / (6 : Int32)) * (6 : Int32)) w_SUCCESS w_USAGE w_IO_FAILURE w_UNRECOGNIZED w_DAMAGED w_UNSUPPORTED)), .val (.ref (own_f1_0 (own_f2_0 ((p0 &&& (2147483647 : Int32)) - ((p0 &&& (2147483647 : Int32)) / (6 : Int32)) * (6 : Int32)) ((p1 &&& (2147483647 : Int32)) - ((p1 &&& (2147483647 : Int32)) / (6 : Int32)) * (6 : Int32))) w_SUCCESS w_USAGE w_IO_FAILURE w_UNRECOGNIZED w_DAMAGED w_UNSUPPORTED)), .val (.ref (own_f3_0 (own_f1_0 ((p0 &&& (2147483647 : Int32)) - ((p0 &&& (2147483647 : Int32)) / (6 : Int32)) * (6 : Int32)) w_SUCCESS w_USAGE w_IO_FAILURE w_UNRECOGNIZED w_DAMAGED w_UNSUPPORTED) (own_f1_0 ((p1 &&& (2147483647 : Int32)) - ((p1 &&& (2147483647 : Int32)) / (6 : Int32)) * (6 : Int32)) w_SUCCESS w_USAGE w_IO_FAILURE w_UNRECOGNIZED w_DAMAGED w_UNSUPPORTED) (own_cd ((p0 &&& (2147483647 : Int32)) - ((p0 &&& (2147483647 : Int32)) / (6 : Int32)) * (6 : Int32))) (own_cd ((p1 &&& (2147483647 : Int32)) - ((p1 &&& (2147483647 : Int32)) / (6 : Int32)) * (6 : Int32)))))] [])) t
      exact k
    refine Owe.cast (show (1 : Int32) = (1 : Int32) from (show own_f0_0 p0 p1 w_SUCCESS w_USAGE w_IO_FAILURE w_UNRECOGNIZED w_DAMAGED w_UNSUPPORTED = (1 : Int32) from (by rw [own_f0_0, if_pos hc51])).symm.trans (own_law p0 p1 w_SUCCESS w_USAGE w_IO_FAILURE w_UNRECOGNIZED w_DAMAGED w_UNSUPPORTED )) ?_
    refine Owe.ret X5 Bd.notSynchronized (v := (some (.int (1 : Int32)))) (fun h => by rw [Bd.returns] at h; cases h) (fun fs hr => ?_) ⟨rfl, N5⟩ (by decide) (by decide)
    show Steps p.tables e below (T5.setTop (mkF m 54 #[.val (.int p0), .val (.int p1), .val (.int ((p0 &&& (2147483647 : Int32)) - ((p0 &&& (2147483647 : Int32)) / (6 : Int32)) * (6 : Int32))), .val (.int ((p1 &&& (2147483647 : Int32)) - ((p1 &&& (2147483647 : Int32)) / (6 : Int32)) * (6 : Int32))), .val (.ref (own_f1_0 ((p0 &&& (2147483647 : Int32)) - ((p0 &&& (2147483647 : Int32)) / (6 : Int32)) * (6 : Int32)) w_SUCCESS w_USAGE w_IO_FAILURE w_UNRECOGNIZED w_DAMAGED w_UNSUPPORTED)), .val (.ref (own_f1_0 ((p1 &&& (2147483647 : Int32)) - ((p1 &&& (2147483647 : Int32)) / (6 : Int32)) * (6 : Int32)) w_SUCCESS w_USAGE w_IO_FAILURE w_UNRECOGNIZED w_DAMAGED w_UNSUPPORTED)), .val (.ref (own_f1_0 (own_f2_0 ((p0 &&& (2147483647 : Int32)) - ((p0 &&& (2147483647 : Int32)) / (6 : Int32)) * (6 : Int32)) ((p1 &&& (2147483647 : Int32)) - ((p1 &&& (2147483647 : Int32)) / (6 : Int32)) * (6 : Int32))) w_SUCCESS w_USAGE w_IO_FAILURE w_UNRECOGNIZED w_DAMAGED w_UNSUPPORTED)), .val (.ref (own_f3_0 (own_f1_0 ((p0 &&& (2147483647 : Int32)) - ((p0 &&& (2147483647 : Int32)) / (6 : Int32)) * (6 : Int32)) w_SUCCESS w_USAGE w_IO_FAILURE w_UNRECOGNIZED w_DAMAGED w_UNSUPPORTED) (own_f1_0 ((p1 &&& (2147483647 : Int32)) - ((p1 &&& (2147483647 : Int32)) / (6 : Int32)) * (6 : Int32)) w_SUCCESS w_USAGE w_IO_FAILURE w_UNRECOGNIZED w_DAMAGED w_UNSUPPORTED) (own_cd ((p0 &&& (2147483647 : Int32)) - ((p0 &&& (2147483647 : Int32)) / (6 : Int32)) * (6 : Int32))) (own_cd ((p1 &&& (2147483647 : Int32)) - ((p1 &&& (2147483647 : Int32)) / (6 : Int32)) * (6 : Int32)))))] [])) _
    refine XS.iconst X5.here hx rfl (hb hby at_54) ?_
    show Steps p.tables e below (T5.setTop (mkF m 55 #[.val (.int p0), .val (.int p1), .val (.int ((p0 &&& (2147483647 : Int32)) - ((p0 &&& (2147483647 : Int32)) / (6 : Int32)) * (6 : Int32))), .val (.int ((p1 &&& (2147483647 : Int32)) - ((p1 &&& (2147483647 : Int32)) / (6 : Int32)) * (6 : Int32))), .val (.ref (own_f1_0 ((p0 &&& (2147483647 : Int32)) - ((p0 &&& (2147483647 : Int32)) / (6 : Int32)) * (6 : Int32)) w_SUCCESS w_USAGE w_IO_FAILURE w_UNRECOGNIZED w_DAMAGED w_UNSUPPORTED)), .val (.ref (own_f1_0 ((p1 &&& (2147483647 : Int32)) - ((p1 &&& (2147483647 : Int32)) / (6 : Int32)) * (6 : Int32)) w_SUCCESS w_USAGE w_IO_FAILURE w_UNRECOGNIZED w_DAMAGED w_UNSUPPORTED)), .val (.ref (own_f1_0 (own_f2_0 ((p0 &&& (2147483647 : Int32)) - ((p0 &&& (2147483647 : Int32)) / (6 : Int32)) * (6 : Int32)) ((p1 &&& (2147483647 : Int32)) - ((p1 &&& (2147483647 : Int32)) / (6 : Int32)) * (6 : Int32))) w_SUCCESS w_USAGE w_IO_FAILURE w_UNRECOGNIZED w_DAMAGED w_UNSUPPORTED)), .val (.ref (own_f3_0 (own_f1_0 ((p0 &&& (2147483647 : Int32)) - ((p0 &&& (2147483647 : Int32)) / (6 : Int32)) * (6 : Int32)) w_SUCCESS w_USAGE w_IO_FAILURE w_UNRECOGNIZED w_DAMAGED w_UNSUPPORTED) (own_f1_0 ((p1 &&& (2147483647 : Int32)) - ((p1 &&& (2147483647 : Int32)) / (6 : Int32)) * (6 : Int32)) w_SUCCESS w_USAGE w_IO_FAILURE w_UNRECOGNIZED w_DAMAGED w_UNSUPPORTED) (own_cd ((p0 &&& (2147483647 : Int32)) - ((p0 &&& (2147483647 : Int32)) / (6 : Int32)) * (6 : Int32))) (own_cd ((p1 &&& (2147483647 : Int32)) - ((p1 &&& (2147483647 : Int32)) / (6 : Int32)) * (6 : Int32)))))] [(.int (1 : Int32))])) _
    refine XS.goto X5.here hx rfl (pc0 := 55) (pc' := 59) rfl (hb hby at_55) (by decide) (by decide) ?_
    show Steps p.tables e below (T5.setTop (mkF m 59 #[.val (.int p0), .val (.int p1), .val (.int ((p0 &&& (2147483647 : Int32)) - ((p0 &&& (2147483647 : Int32)) / (6 : Int32)) * (6 : Int32))), .val (.int ((p1 &&& (2147483647 : Int32)) - ((p1 &&& (2147483647 : Int32)) / (6 : Int32)) * (6 : Int32))), .val (.ref (own_f1_0 ((p0 &&& (2147483647 : Int32)) - ((p0 &&& (2147483647 : Int32)) / (6 : Int32)) * (6 : Int32)) w_SUCCESS w_USAGE w_IO_FAILURE w_UNRECOGNIZED w_DAMAGED w_UNSUPPORTED)), .val (.ref (own_f1_0 ((p1 &&& (2147483647 : Int32)) - ((p1 &&& (2147483647 : Int32)) / (6 : Int32)) * (6 : Int32)) w_SUCCESS w_USAGE w_IO_FAILURE w_UNRECOGNIZED w_DAMAGED w_UNSUPPORTED)), .val (.ref (own_f1_0 (own_f2_0 ((p0 &&& (2147483647 : Int32)) - ((p0 &&& (2147483647 : Int32)) / (6 : Int32)) * (6 : Int32)) ((p1 &&& (2147483647 : Int32)) - ((p1 &&& (2147483647 : Int32)) / (6 : Int32)) * (6 : Int32))) w_SUCCESS w_USAGE w_IO_FAILURE w_UNRECOGNIZED w_DAMAGED w_UNSUPPORTED)), .val (.ref (own_f3_0 (own_f1_0 ((p0 &&& (2147483647 : Int32)) - ((p0 &&& (2147483647 : Int32)) / (6 : Int32)) * (6 : Int32)) w_SUCCESS w_USAGE w_IO_FAILURE w_UNRECOGNIZED w_DAMAGED w_UNSUPPORTED) (own_f1_0 ((p1 &&& (2147483647 : Int32)) - ((p1 &&& (2147483647 : Int32)) / (6 : Int32)) * (6 : Int32)) w_SUCCESS w_USAGE w_IO_FAILURE w_UNRECOGNIZED w_DAMAGED w_UNSUPPORTED) (own_cd ((p0 &&& (2147483647 : Int32)) - ((p0 &&& (2147483647 : Int32)) / (6 : Int32)) * (6 : Int32))) (own_cd ((p1 &&& (2147483647 : Int32)) - ((p1 &&& (2147483647 : Int32)) / (6 : Int32)) * (6 : Int32)))))] [(.int (1 : Int32))])) _
    exact retN X5 hx (t := .boolean) Bd.returns (by simp) (hb hby at_59) hr
  · refine Owe.step (T' := T5) (g' := (mkF m 58 #[.val (.int p0), .val (.int p1), .val (.int ((p0 &&& (2147483647 : Int32)) - ((p0 &&& (2147483647 : Int32)) / (6 : Int32)) * (6 : Int32))), .val (.int ((p1 &&& (2147483647 : Int32)) - ((p1 &&& (2147483647 : Int32)) / (6 : Int32)) * (6 : Int32))), .val (.ref (own_f1_0 ((p0 &&& (2147483647 : Int32)) - ((p0 &&& (2147483647 : Int32)) / (6 : Int32)) * (6 : Int32)) w_SUCCESS w_USAGE w_IO_FAILURE w_UNRECOGNIZED w_DAMAGED w_UNSUPPORTED)), .val (.ref (own_f1_0 ((p1 &&& (2147483647 : Int32)) - ((p1 &&& (2147483647 : Int32)) / (6 : Int32)) * (6 : Int32)) w_SUCCESS w_USAGE w_IO_FAILURE w_UNRECOGNIZED w_DAMAGED w_UNSUPPORTED)), .val (.ref (own_f1_0 (own_f2_0 ((p0 &&& (2147483647 : Int32)) - ((p0 &&& (2147483647 : Int32)) / (6 : Int32)) * (6 : Int32)) ((p1 &&& (2147483647 : Int32)) - ((p1 &&& (2147483647 : Int32)) / (6 : Int32)) * (6 : Int32))) w_SUCCESS w_USAGE w_IO_FAILURE w_UNRECOGNIZED w_DAMAGED w_UNSUPPORTED)), .val (.ref (own_f3_0 (own_f1_0 ((p0 &&& (2147483647 : Int32)) - ((p0 &&& (2147483647 : Int32)) / (6 : Int32)) * (6 : Int32)) w_SUCCESS w_USAGE w_IO_FAILURE w_UNRECOGNIZED w_DAMAGED w_UNSUPPORTED) (own_f1_0 ((p1 &&& (2147483647 : Int32)) - ((p1 &&& (2147483647 : Int32)) / (6 : Int32)) * (6 : Int32)) w_SUCCESS w_USAGE w_IO_FAILURE w_UNRECOGNIZED w_DAMAGED w_UNSUPPORTED) (own_cd ((p0 &&& (2147483647 : Int32)) - ((p0 &&& (2147483647 : Int32)) / (6 : Int32)) * (6 : Int32))) (own_cd ((p1 &&& (2147483647 : Int32)) - ((p1 &&& (2147483647 : Int32)) / (6 : Int32)) * (6 : Int32)))))] [])) (fun t k => ?_) ?_
    · show Steps p.tables e below (T5.setTop (mkF m 51 #[.val (.int p0), .val (.int p1), .val (.int ((p0 &&& (2147483647 : Int32)) - ((p0 &&& (2147483647 : Int32)) / (6 : Int32)) * (6 : Int32))), .val (.int ((p1 &&& (2147483647 : Int32)) - ((p1 &&& (2147483647 : Int32)) / (6 : Int32)) * (6 : Int32))), .val (.ref (own_f1_0 ((p0 &&& (2147483647 : Int32)) - ((p0 &&& (2147483647 : Int32)) / (6 : Int32)) * (6 : Int32)) w_SUCCESS w_USAGE w_IO_FAILURE w_UNRECOGNIZED w_DAMAGED w_UNSUPPORTED)), .val (.ref (own_f1_0 ((p1 &&& (2147483647 : Int32)) - ((p1 &&& (2147483647 : Int32)) / (6 : Int32)) * (6 : Int32)) w_SUCCESS w_USAGE w_IO_FAILURE w_UNRECOGNIZED w_DAMAGED w_UNSUPPORTED)), .val (.ref (own_f1_0 (own_f2_0 ((p0 &&& (2147483647 : Int32)) - ((p0 &&& (2147483647 : Int32)) / (6 : Int32)) * (6 : Int32)) ((p1 &&& (2147483647 : Int32)) - ((p1 &&& (2147483647 : Int32)) / (6 : Int32)) * (6 : Int32))) w_SUCCESS w_USAGE w_IO_FAILURE w_UNRECOGNIZED w_DAMAGED w_UNSUPPORTED)), .val (.ref (own_f3_0 (own_f1_0 ((p0 &&& (2147483647 : Int32)) - ((p0 &&& (2147483647 : Int32)) / (6 : Int32)) * (6 : Int32)) w_SUCCESS w_USAGE w_IO_FAILURE w_UNRECOGNIZED w_DAMAGED w_UNSUPPORTED) (own_f1_0 ((p1 &&& (2147483647 : Int32)) - ((p1 &&& (2147483647 : Int32)) / (6 : Int32)) * (6 : Int32)) w_SUCCESS w_USAGE w_IO_FAILURE w_UNRECOGNIZED w_DAMAGED w_UNSUPPORTED) (own_cd ((p0 &&& (2147483647 : Int32)) - ((p0 &&& (2147483647 : Int32)) / (6 : Int32)) * (6 : Int32))) (own_cd ((p1 &&& (2147483647 : Int32)) - ((p1 &&& (2147483647 : Int32)) / (6 : Int32)) * (6 : Int32)))))] [(.ref (own_f1_0 (own_f2_0 ((p0 &&& (2147483647 : Int32)) - ((p0 &&& (2147483647 : Int32)) / (6 : Int32)) * (6 : Int32)) ((p1 &&& (2147483647 : Int32)) - ((p1 &&& (2147483647 : Int32)) / (6 : Int32)) * (6 : Int32))) w_SUCCESS w_USAGE w_IO_FAILURE w_UNRECOGNIZED w_DAMAGED w_UNSUPPORTED)), (.ref (own_f3_0 (own_f1_0 ((p0 &&& (2147483647 : Int32)) - ((p0 &&& (2147483647 : Int32)) / (6 : Int32)) * (6 : Int32)) w_SUCCESS w_USAGE w_IO_FAILURE w_UNRECOGNIZED w_DAMAGED w_UNSUPPORTED) (own_f1_0 ((p1 &&& (2147483647 : Int32)) - ((p1 &&& (2147483647 : Int32)) / (6 : Int32)) * (6 : Int32)) w_SUCCESS w_USAGE w_IO_FAILURE w_UNRECOGNIZED w_DAMAGED w_UNSUPPORTED) (own_cd ((p0 &&& (2147483647 : Int32)) - ((p0 &&& (2147483647 : Int32)) / (6 : Int32)) * (6 : Int32))) (own_cd ((p1 &&& (2147483647 : Int32)) - ((p1 &&& (2147483647 : Int32)) / (6 : Int32)) * (6 : Int32)))))])) t
      refine Jvm.RoadKit.acmp (g := (mkF m 51 #[.val (.int p0), .val (.int p1), .val (.int ((p0 &&& (2147483647 : Int32)) - ((p0 &&& (2147483647 : Int32)) / (6 : Int32)) * (6 : Int32))), .val (.int ((p1 &&& (2147483647 : Int32)) - ((p1 &&& (2147483647 : Int32)) / (6 : Int32)) * (6 : Int32))), .val (.ref (own_f1_0 ((p0 &&& (2147483647 : Int32)) - ((p0 &&& (2147483647 : Int32)) / (6 : Int32)) * (6 : Int32)) w_SUCCESS w_USAGE w_IO_FAILURE w_UNRECOGNIZED w_DAMAGED w_UNSUPPORTED)), .val (.ref (own_f1_0 ((p1 &&& (2147483647 : Int32)) - ((p1 &&& (2147483647 : Int32)) / (6 : Int32)) * (6 : Int32)) w_SUCCESS w_USAGE w_IO_FAILURE w_UNRECOGNIZED w_DAMAGED w_UNSUPPORTED)), .val (.ref (own_f1_0 (own_f2_0 ((p0 &&& (2147483647 : Int32)) - ((p0 &&& (2147483647 : Int32)) / (6 : Int32)) * (6 : Int32)) ((p1 &&& (2147483647 : Int32)) - ((p1 &&& (2147483647 : Int32)) / (6 : Int32)) * (6 : Int32))) w_SUCCESS w_USAGE w_IO_FAILURE w_UNRECOGNIZED w_DAMAGED w_UNSUPPORTED)), .val (.ref (own_f3_0 (own_f1_0 ((p0 &&& (2147483647 : Int32)) - ((p0 &&& (2147483647 : Int32)) / (6 : Int32)) * (6 : Int32)) w_SUCCESS w_USAGE w_IO_FAILURE w_UNRECOGNIZED w_DAMAGED w_UNSUPPORTED) (own_f1_0 ((p1 &&& (2147483647 : Int32)) - ((p1 &&& (2147483647 : Int32)) / (6 : Int32)) * (6 : Int32)) w_SUCCESS w_USAGE w_IO_FAILURE w_UNRECOGNIZED w_DAMAGED w_UNSUPPORTED) (own_cd ((p0 &&& (2147483647 : Int32)) - ((p0 &&& (2147483647 : Int32)) / (6 : Int32)) * (6 : Int32))) (own_cd ((p1 &&& (2147483647 : Int32)) - ((p1 &&& (2147483647 : Int32)) / (6 : Int32)) * (6 : Int32)))))] [(.ref (own_f1_0 (own_f2_0 ((p0 &&& (2147483647 : Int32)) - ((p0 &&& (2147483647 : Int32)) / (6 : Int32)) * (6 : Int32)) ((p1 &&& (2147483647 : Int32)) - ((p1 &&& (2147483647 : Int32)) / (6 : Int32)) * (6 : Int32))) w_SUCCESS w_USAGE w_IO_FAILURE w_UNRECOGNIZED w_DAMAGED w_UNSUPPORTED)), (.ref (own_f3_0 (own_f1_0 ((p0 &&& (2147483647 : Int32)) - ((p0 &&& (2147483647 : Int32)) / (6 : Int32)) * (6 : Int32)) w_SUCCESS w_USAGE w_IO_FAILURE w_UNRECOGNIZED w_DAMAGED w_UNSUPPORTED) (own_f1_0 ((p1 &&& (2147483647 : Int32)) - ((p1 &&& (2147483647 : Int32)) / (6 : Int32)) * (6 : Int32)) w_SUCCESS w_USAGE w_IO_FAILURE w_UNRECOGNIZED w_DAMAGED w_UNSUPPORTED) (own_cd ((p0 &&& (2147483647 : Int32)) - ((p0 &&& (2147483647 : Int32)) / (6 : Int32)) * (6 : Int32))) (own_cd ((p1 &&& (2147483647 : Int32)) - ((p1 &&& (2147483647 : Int32)) / (6 : Int32)) * (6 : Int32)))))])) X5 hx rfl rfl rfl (pc0 := 51) (pc' := 58) (same := false) rfl (hb hby at_51) rfl (decide_eq_false fun q => hc51 (Value.ref.inj q)) (by decide) (by decide) ?_
      show Steps p.tables e below (T5.setTop (mkF m 58 #[.val (.int p0), .val (.int p1), .val (.int ((p0 &&& (2147483647 : Int32)) - ((p0 &&& (2147483647 : Int32)) / (6 : Int32)) * (6 : Int32))), .val (.int ((p1 &&& (2147483647 : Int32)) - ((p1 &&& (2147483647 : Int32)) / (6 : Int32)) * (6 : Int32))), .val (.ref (own_f1_0 ((p0 &&& (2147483647 : Int32)) - ((p0 &&& (2147483647 : Int32)) / (6 : Int32)) * (6 : Int32)) w_SUCCESS w_USAGE w_IO_FAILURE w_UNRECOGNIZED w_DAMAGED w_UNSUPPORTED)), .val (.ref (own_f1_0 ((p1 &&& (2147483647 : Int32)) - ((p1 &&& (2147483647 : Int32)) / (6 : Int32)) * (6 : Int32)) w_SUCCESS w_USAGE w_IO_FAILURE w_UNRECOGNIZED w_DAMAGED w_UNSUPPORTED)), .val (.ref (own_f1_0 (own_f2_0 ((p0 &&& (2147483647 : Int32)) - ((p0 &&& (2147483647 : Int32)) / (6 : Int32)) * (6 : Int32)) ((p1 &&& (2147483647 : Int32)) - ((p1 &&& (2147483647 : Int32)) / (6 : Int32)) * (6 : Int32))) w_SUCCESS w_USAGE w_IO_FAILURE w_UNRECOGNIZED w_DAMAGED w_UNSUPPORTED)), .val (.ref (own_f3_0 (own_f1_0 ((p0 &&& (2147483647 : Int32)) - ((p0 &&& (2147483647 : Int32)) / (6 : Int32)) * (6 : Int32)) w_SUCCESS w_USAGE w_IO_FAILURE w_UNRECOGNIZED w_DAMAGED w_UNSUPPORTED) (own_f1_0 ((p1 &&& (2147483647 : Int32)) - ((p1 &&& (2147483647 : Int32)) / (6 : Int32)) * (6 : Int32)) w_SUCCESS w_USAGE w_IO_FAILURE w_UNRECOGNIZED w_DAMAGED w_UNSUPPORTED) (own_cd ((p0 &&& (2147483647 : Int32)) - ((p0 &&& (2147483647 : Int32)) / (6 : Int32)) * (6 : Int32))) (own_cd ((p1 &&& (2147483647 : Int32)) - ((p1 &&& (2147483647 : Int32)) / (6 : Int32)) * (6 : Int32)))))] [])) t
      exact k
    refine Owe.cast (show (0 : Int32) = (1 : Int32) from (show own_f0_0 p0 p1 w_SUCCESS w_USAGE w_IO_FAILURE w_UNRECOGNIZED w_DAMAGED w_UNSUPPORTED = (0 : Int32) from (by rw [own_f0_0, if_neg hc51])).symm.trans (own_law p0 p1 w_SUCCESS w_USAGE w_IO_FAILURE w_UNRECOGNIZED w_DAMAGED w_UNSUPPORTED )) ?_
    refine Owe.ret X5 Bd.notSynchronized (v := (some (.int (0 : Int32)))) (fun h => by rw [Bd.returns] at h; cases h) (fun fs hr => ?_) ⟨rfl, N5⟩ (by decide) (by decide)
    show Steps p.tables e below (T5.setTop (mkF m 58 #[.val (.int p0), .val (.int p1), .val (.int ((p0 &&& (2147483647 : Int32)) - ((p0 &&& (2147483647 : Int32)) / (6 : Int32)) * (6 : Int32))), .val (.int ((p1 &&& (2147483647 : Int32)) - ((p1 &&& (2147483647 : Int32)) / (6 : Int32)) * (6 : Int32))), .val (.ref (own_f1_0 ((p0 &&& (2147483647 : Int32)) - ((p0 &&& (2147483647 : Int32)) / (6 : Int32)) * (6 : Int32)) w_SUCCESS w_USAGE w_IO_FAILURE w_UNRECOGNIZED w_DAMAGED w_UNSUPPORTED)), .val (.ref (own_f1_0 ((p1 &&& (2147483647 : Int32)) - ((p1 &&& (2147483647 : Int32)) / (6 : Int32)) * (6 : Int32)) w_SUCCESS w_USAGE w_IO_FAILURE w_UNRECOGNIZED w_DAMAGED w_UNSUPPORTED)), .val (.ref (own_f1_0 (own_f2_0 ((p0 &&& (2147483647 : Int32)) - ((p0 &&& (2147483647 : Int32)) / (6 : Int32)) * (6 : Int32)) ((p1 &&& (2147483647 : Int32)) - ((p1 &&& (2147483647 : Int32)) / (6 : Int32)) * (6 : Int32))) w_SUCCESS w_USAGE w_IO_FAILURE w_UNRECOGNIZED w_DAMAGED w_UNSUPPORTED)), .val (.ref (own_f3_0 (own_f1_0 ((p0 &&& (2147483647 : Int32)) - ((p0 &&& (2147483647 : Int32)) / (6 : Int32)) * (6 : Int32)) w_SUCCESS w_USAGE w_IO_FAILURE w_UNRECOGNIZED w_DAMAGED w_UNSUPPORTED) (own_f1_0 ((p1 &&& (2147483647 : Int32)) - ((p1 &&& (2147483647 : Int32)) / (6 : Int32)) * (6 : Int32)) w_SUCCESS w_USAGE w_IO_FAILURE w_UNRECOGNIZED w_DAMAGED w_UNSUPPORTED) (own_cd ((p0 &&& (2147483647 : Int32)) - ((p0 &&& (2147483647 : Int32)) / (6 : Int32)) * (6 : Int32))) (own_cd ((p1 &&& (2147483647 : Int32)) - ((p1 &&& (2147483647 : Int32)) / (6 : Int32)) * (6 : Int32)))))] [])) _
    refine XS.iconst X5.here hx rfl (hb hby at_58) ?_
    show Steps p.tables e below (T5.setTop (mkF m 59 #[.val (.int p0), .val (.int p1), .val (.int ((p0 &&& (2147483647 : Int32)) - ((p0 &&& (2147483647 : Int32)) / (6 : Int32)) * (6 : Int32))), .val (.int ((p1 &&& (2147483647 : Int32)) - ((p1 &&& (2147483647 : Int32)) / (6 : Int32)) * (6 : Int32))), .val (.ref (own_f1_0 ((p0 &&& (2147483647 : Int32)) - ((p0 &&& (2147483647 : Int32)) / (6 : Int32)) * (6 : Int32)) w_SUCCESS w_USAGE w_IO_FAILURE w_UNRECOGNIZED w_DAMAGED w_UNSUPPORTED)), .val (.ref (own_f1_0 ((p1 &&& (2147483647 : Int32)) - ((p1 &&& (2147483647 : Int32)) / (6 : Int32)) * (6 : Int32)) w_SUCCESS w_USAGE w_IO_FAILURE w_UNRECOGNIZED w_DAMAGED w_UNSUPPORTED)), .val (.ref (own_f1_0 (own_f2_0 ((p0 &&& (2147483647 : Int32)) - ((p0 &&& (2147483647 : Int32)) / (6 : Int32)) * (6 : Int32)) ((p1 &&& (2147483647 : Int32)) - ((p1 &&& (2147483647 : Int32)) / (6 : Int32)) * (6 : Int32))) w_SUCCESS w_USAGE w_IO_FAILURE w_UNRECOGNIZED w_DAMAGED w_UNSUPPORTED)), .val (.ref (own_f3_0 (own_f1_0 ((p0 &&& (2147483647 : Int32)) - ((p0 &&& (2147483647 : Int32)) / (6 : Int32)) * (6 : Int32)) w_SUCCESS w_USAGE w_IO_FAILURE w_UNRECOGNIZED w_DAMAGED w_UNSUPPORTED) (own_f1_0 ((p1 &&& (2147483647 : Int32)) - ((p1 &&& (2147483647 : Int32)) / (6 : Int32)) * (6 : Int32)) w_SUCCESS w_USAGE w_IO_FAILURE w_UNRECOGNIZED w_DAMAGED w_UNSUPPORTED) (own_cd ((p0 &&& (2147483647 : Int32)) - ((p0 &&& (2147483647 : Int32)) / (6 : Int32)) * (6 : Int32))) (own_cd ((p1 &&& (2147483647 : Int32)) - ((p1 &&& (2147483647 : Int32)) / (6 : Int32)) * (6 : Int32)))))] [(.int (0 : Int32))])) _
    exact retN X5 hx (t := .boolean) Bd.returns (by simp) (hb hby at_59) hr
set_option maxRecDepth 65536 in
set_option maxHeartbeats 40000000 in
theorem comes_1 {Post : Tables → Env → Array Value → State → Outcome → State → Prop} (hpost : ∀ tb e args s v u, (limb_1_1.after args s (.returned v) u = true ∧ limb_1_2.after args s (.returned v) u = true ∧ True) → FrameEnd s (.returned v) u (Jvm.fieldLocs frame_1_writes args s ++ Jvm.arrayLocs frame_1_arrays args s ++ Jvm.staticLocs frame_1_statics s) 0 0 → Post tb e args s (.returned v) u) :
    ArmFor flags0 classFile x code maxLocals ret World_1 tables_1 room_1 Calls_1 rest_1 Pre_1 Post := by
  intro l hfl _ _ p e ha hc hk s m args below hf hA hF happ hP
  obtain ⟨hcalls, hrest, hpre⟩ := hP
  obtain ⟨-, -, -, hnamed, -, -, -, hat⟩ := (Spec.applies_iff hf).mp happ
  obtain ⟨hg, hn⟩ := and_e (Cond.before_iff.mp (show (Jvm.Cond.and given_1 narrow_1).before args s = true from hpre))
  obtain ⟨ga1, gb1⟩ := and_e hg
  obtain ⟨ga2, gb2⟩ := and_e gb1
  obtain ⟨w0, w1, rfl⟩ : ∃ w0 w1 : Value, args = #[w0, w1] := by
    have hs : args.size = 2 := by simpa [Cond.value, given_1] using ga1
    obtain ⟨L⟩ := args
    match L, hs with
    | [w0, w1], _ => exact ⟨w0, w1, rfl⟩
  have hw := fun d (hd : d ∈ tables_1) => atoms_spec (ws := Jvm.Cond.code x code maxLocals ret :: tables_1) hat d (List.mem_cons_of_mem _ hd)
  obtain ⟨i0, ei0⟩ := is_v ga2
  obtain rfl : w0 = (.int i0) := Option.some.inj ei0
  obtain ⟨i1, ei1⟩ := is_v gb2
  obtain rfl : w1 = (.int i1) := Option.some.inj ei1
  obtain ⟨na1, nb1⟩ := and_e hn
  obtain ⟨na2, nb2⟩ := and_e nb1
  obtain ⟨na3, nb3⟩ := and_e nb2
  obtain ⟨na4, nb4⟩ := and_e nb3
  obtain ⟨na5, nb5⟩ := and_e nb4
  obtain ⟨na6, nb6⟩ := and_e nb5
  obtain ⟨na7, nb7⟩ := and_e nb6
  obtain ⟨na8, nb8⟩ := and_e nb7
  obtain ⟨na9, nb9⟩ := and_e nb8
  obtain ⟨na10, nb10⟩ := and_e nb9
  obtain ⟨na11, nb11⟩ := and_e nb10
  obtain ⟨w_SUCCESS, ev_SUCCESS⟩ := exa_v na1
  have E_SUCCESS := Exa.start ev_SUCCESS na1
  have S_SUCCESS := Sta.start ev_SUCCESS (Or.inr ⟨(hw _ (List.mem_of_getElem? (i := 6) rfl)), (hw _ (List.mem_of_getElem? (i := 7) rfl))⟩)
  obtain ⟨w_UNRECOGNIZED, ev_UNRECOGNIZED⟩ := exa_v na2
  have E_UNRECOGNIZED := Exa.start ev_UNRECOGNIZED na2
  have S_UNRECOGNIZED := Sta.start ev_UNRECOGNIZED (Or.inr ⟨(hw _ (List.mem_of_getElem? (i := 6) rfl)), (hw _ (List.mem_of_getElem? (i := 9) rfl))⟩)
  obtain ⟨w_IO_FAILURE, ev_IO_FAILURE⟩ := exa_v na5
  have E_IO_FAILURE := Exa.start ev_IO_FAILURE na5
  have S_IO_FAILURE := Sta.start ev_IO_FAILURE (Or.inr ⟨(hw _ (List.mem_of_getElem? (i := 6) rfl)), (hw _ (List.mem_of_getElem? (i := 22) rfl))⟩)
  obtain ⟨w_USAGE, ev_USAGE⟩ := exa_v na6
  have E_USAGE := Exa.start ev_USAGE na6
  have S_USAGE := Sta.start ev_USAGE (Or.inr ⟨(hw _ (List.mem_of_getElem? (i := 6) rfl)), (hw _ (List.mem_of_getElem? (i := 24) rfl))⟩)
  obtain ⟨w_UNSUPPORTED, ev_UNSUPPORTED⟩ := exa_v na9
  have E_UNSUPPORTED := Exa.start ev_UNSUPPORTED na9
  have S_UNSUPPORTED := Sta.start ev_UNSUPPORTED (Or.inr ⟨(hw _ (List.mem_of_getElem? (i := 6) rfl)), (hw _ (List.mem_of_getElem? (i := 26) rfl))⟩)
  obtain ⟨w_DAMAGED, ev_DAMAGED⟩ := exa_v na11
  have E_DAMAGED := Exa.start ev_DAMAGED na11
  have S_DAMAGED := Sta.start ev_DAMAGED (Or.inr ⟨(hw _ (List.mem_of_getElem? (i := 6) rfl)), (hw _ (List.mem_of_getElem? (i := 28) rfl))⟩)
  have F_UNRECOGNIZED_code := own_fldI ev_UNRECOGNIZED na3
  have F_SUCCESS_code := own_fldI ev_SUCCESS na4
  have F_USAGE_code := own_fldI ev_USAGE na7
  have F_IO_FAILURE_code := own_fldI ev_IO_FAILURE na8
  have F_UNSUPPORTED_code := own_fldI ev_UNSUPPORTED na10
  have F_DAMAGED_code := own_fldI ev_DAMAGED nb11
  obtain ⟨n, o, h1, h2, h3, _, L, rfl, ⟨rfl, N⟩, hq⟩ := own_rm0 l s _ hw tables_1 i0 i1 w_SUCCESS w_USAGE w_IO_FAILURE w_UNRECOGNIZED w_DAMAGED w_UNSUPPORTED s.heap s.heap.size (Nat.le_refl _) S_SUCCESS S_USAGE S_IO_FAILURE S_UNRECOGNIZED S_DAMAGED S_UNSUPPORTED ⟨E_SUCCESS, E_USAGE, E_IO_FAILURE, E_UNRECOGNIZED, E_DAMAGED, E_UNSUPPORTED, F_SUCCESS_code, F_USAGE_code, F_IO_FAILURE_code, F_UNRECOGNIZED_code, F_DAMAGED_code, F_UNSUPPORTED_code⟩ p e ha hc hk s m _ below hf ((Spec.applies_iff_loose hf).mp happ).1 ⟨rfl, State.Warmed39.refl s, rfl⟩ trivial
  refine ⟨n, _, h1, h2, h3, hpost _ _ _ _ _ _ ⟨Cond.after_iff.mpr rfl, Cond.after_iff.mpr (eq_i res_at (Term.int_eval (1)) rfl), trivial⟩ ⟨hq.1, hq.2.1, (hq.2.2.sift fun y hy => Or.inr (N y hy)).mono (by decide) (by decide)⟩⟩
theorem main_1_1 : Claimed_1_1 := comes_1 fun _ _ _ _ _ _ h hF => ⟨h.1, hF⟩
theorem main_1_2 : Claimed_1_2 := comes_1 fun _ _ _ _ _ _ h hF => ⟨h.2.1, hF⟩
end Jvm.Pilot.@@N@@
namespace Jvm.Pilot.@@N@@
open Jvm Jvm.ClassFile Sem Op Lib Jvm.Free Jvm.Stand Jvm.Pilot.@@N@@.Jvm.D
/-! MADE BY PROGRAM (witnessworld.py) out of the Statement's table words and the real class files: 13 classes; the members and pool entries that the words name. The judged class is class 1, her method 2. -/
namespace start1
open Jvm.ClassFile
def u (s : String) : CpInfo := .utf8 (stringToUtf16 s)
/-- a pool by its gaps: so many unusable entries, then the entry; so many at the end -/
def gap : Nat → List CpInfo → List CpInfo
  | 0, r => r
  | n + 1, r => .unusable :: gap n r
def poolList (es : List (Nat × CpInfo)) (last : Nat) : List CpInfo := es.foldr (fun e r => gap e.1 (e.2 :: r)) (gap last [])
def pool (es : List (Nat × CpInfo)) (last : Nat) : Array CpInfo := ⟨poolList es last⟩
def fileOf (pool : Array CpInfo) (this : Nat) (attrs : Array Attribute := #[]) (ms : Array MethodInfo := #[]) (fl : Nat := 33) (sup : Nat := 0) (ifs : Array Nat := #[]) (fds : Array FieldInfo := #[]) : ClassFile where
  minorVersion := 0
  majorVersion := 65
  constantPool := pool
  accessFlags := fl
  thisClass := this
  superClass := sup
  interfaces := ifs
  fields := fds
  methods := ms
  attributes := attrs
def plain (name : String) (sup : Option ClassId) : Class where
  name := name
  kind := .ordinary
  loader := none
  accessFlags := 33
  super := sup
  interfaces := #[]
  cf := none
  fields := #[]
  methods := #[]
  instanceTypes := #[]
  staticTypes := #[]
  resolved := #[]
  callSites := []
  init := .initialized
  statics := none
  mirror := none

def pool0 : Array CpInfo := pool [(5, u "<init>"), (0, u "()V"), (1, .class_ 10), (1, u "java/lang/Object")] 113

def k0m0 : Method := { name := "<init>", desc := "()V", sig := { parameters := [], returnType := none }, accessFlags := 1, code := none }
/-- java/lang/Object -/
def k0 : Class := { plain "java/lang/Object" none with
  accessFlags := 33
  interfaces := #[]
  cf := some (fileOf pool0 8 #[] #[{ accessFlags := 1, nameIndex := 5, descriptorIndex := 6, attributes := #[] }] 33 0 #[] #[])
  fields := #[]
  methods := #[k0m0]
  instanceTypes := #[]
  staticTypes := #[]
  resolved := Array.replicate 124 none
  statics := none }

def pool1 : Array CpInfo := pool [(2, .class_ 4), (1, u "java/lang/Object"), (0, u "<init>"), (0, u "()V"), (0, .fieldref 8 9), (0, .class_ 10), (0, .nameAndType 11 12), (0, u "com/example/rasterline/rasterline/cli/ExitStatus"), (0, u "SUCCESS"), (0, u "Lcom/example/rasterline/rasterline/cli/ExitStatus;"), (0, .fieldref 8 14), (0, .nameAndType 15 12), (0, u "USAGE"), (0, .fieldref 8 17), (0, .nameAndType 18 12), (0, u "IO_FAILURE"), (0, .fieldref 8 20), (0, .nameAndType 21 12), (0, u "UNRECOGNIZED"), (0, .fieldref 8 23), (0, .nameAndType 24 12), (0, u "DAMAGED"), (0, .fieldref 8 26), (0, .nameAndType 27 12), (0, u "UNSUPPORTED"), (0, .integer 2147483647), (0, .methodref 30 31), (0, .class_ 32), (0, .nameAndType 33 34), (0, u "com/example/rasterline/rasterline/cli/ExitStatusMaxPinLaw"), (0, u "pick"), (0, u "(I)Lcom/example/rasterline/rasterline/cli/ExitStatus;"), (0, .methodref 36 37), (0, .class_ 38), (0, .nameAndType 39 40), (0, u "java/lang/Math"), (0, u "max"), (0, u "(II)I"), (0, .methodref 8 42), (0, .nameAndType 39 43), (0, u "(Lcom/example/rasterline/rasterline/cli/ExitStatus;)Lcom/example/rasterline/rasterline/cli/ExitStatus;"), (3, u "law"), (0, u "(II)Z")] 2

def k1m0 : Method := { name := "<init>", desc := "()V", sig := { parameters := [], returnType := none }, accessFlags := 1, code := none }
def k1c1 : Code := { maxStack := 2, maxLocals := 1, code := method_2_code, exceptionTable := #[], attributes := #[] }
def k1m1 : Method := { name := "pick", desc := "(I)Lcom/example/rasterline/rasterline/cli/ExitStatus;", sig := { parameters := [.int], returnType := some (.object "com/example/rasterline/rasterline/cli/ExitStatus") }, accessFlags := 10, code := some k1c1 }
def k1c2 : Code := { maxStack := 2, maxLocals := 8, code := code, exceptionTable := #[], attributes := #[] }
def k1m2 : Method := { name := "law", desc := "(II)Z", sig := { parameters := [.int, .int], returnType := some .boolean }, accessFlags := 9, code := some k1c2 }
/-- com/example/rasterline/rasterline/cli/ExitStatusMaxPinLaw -/
def k1 : Class := { plain "com/example/rasterline/rasterline/cli/ExitStatusMaxPinLaw" (some 0) with
  accessFlags := 49
  interfaces := #[]
  cf := some (fileOf pool1 30 #[] #[{ accessFlags := 1, nameIndex := 5, descriptorIndex := 6, attributes := #[] }, { accessFlags := 10, nameIndex := 33, descriptorIndex := 34, attributes := #[] }, { accessFlags := 9, nameIndex := 47, descriptorIndex := 48, attributes := #[] }] 49 2 #[] #[])
  fields := #[]
  methods := #[k1m0, k1m1, k1m2]
  instanceTypes := #[]
  staticTypes := #[]
  resolved := Array.replicate 51 none
  statics := none }

def pool2 : Array CpInfo := pool [(1, .class_ 2), (0, u "java/lang/constant/Constable"), (0, .class_ 4), (0, u "java/lang/Object")] 6

/-- java/lang/constant/Constable -/
def k2 : Class := { plain "java/lang/constant/Constable" (some 0) with
  accessFlags := 1537
  interfaces := #[]
  cf := some (fileOf pool2 1 #[] #[] 1537 3 #[] #[])
  fields := #[]
  methods := #[]
  instanceTypes := #[]
  staticTypes := #[]
  resolved := Array.replicate 11 none
  statics := none }

def pool3 : Array CpInfo := pool [(1, .class_ 2), (0, u "java/lang/Comparable"), (0, .class_ 4), (0, u "java/lang/Object")] 7

/-- java/lang/Comparable -/
def k3 : Class := { plain "java/lang/Comparable" (some 0) with
  accessFlags := 1537
  interfaces := #[]
  cf := some (fileOf pool3 1 #[] #[] 1537 3 #[] #[])
  fields := #[]
  methods := #[]
  instanceTypes := #[]
  staticTypes := #[]
  resolved := Array.replicate 12 none
  statics := none }

def pool4 : Array CpInfo := pool [(1, .class_ 2), (0, u "java/io/Serializable"), (0, .class_ 4), (0, u "java/lang/Object")] 2

/-- java/io/Serializable -/
def k4 : Class := { plain "java/io/Serializable" (some 0) with
  accessFlags := 1537
  interfaces := #[]
  cf := some (fileOf pool4 1 #[] #[] 1537 3 #[] #[])
  fields := #[]
  methods := #[]
  instanceTypes := #[]
  staticTypes := #[]
  resolved := Array.replicate 7 none
  statics := none }

def pool5 : Array CpInfo := pool [(2, .class_ 4), (1, u "java/lang/Enum"), (0, u "name"), (0, u "Ljava/lang/String;"), (2, u "ordinal"), (0, u "I"), (1, .class_ 14), (1, u "java/lang/Object"), (4, u "hash"), (86, .class_ 108), (1, u "java/lang/Enum$EnumDesc"), (2, .class_ 112), (0, u "java/lang/constant/Constable"), (0, .class_ 114), (0, u "java/lang/Comparable"), (0, .class_ 116), (0, u "java/io/Serializable")] 87

/-- java/lang/Enum -/
def k5 : Class := { plain "java/lang/Enum" (some 0) with
  accessFlags := 1057
  interfaces := #[2, 3, 4]
  cf := some (fileOf pool5 2 #[.nestMembers #[106]] #[] 1057 12 #[111, 113, 115] #[{ accessFlags := 18, nameIndex := 5, descriptorIndex := 6, attributes := #[] }, { accessFlags := 18, nameIndex := 9, descriptorIndex := 10, attributes := #[] }, { accessFlags := 2, nameIndex := 19, descriptorIndex := 10, attributes := #[] }])
  fields := #[{ name := "name", type := (.object "java/lang/String"), accessFlags := 18, slot := 0, constantValue := 0 }, { name := "ordinal", type := .int, accessFlags := 18, slot := 1, constantValue := 0 }, { name := "hash", type := .int, accessFlags := 2, slot := 2, constantValue := 0 }]
  methods := #[]
  instanceTypes := #[(.object "java/lang/String"), .int, .int]
  staticTypes := #[]
  resolved := Array.replicate 204 none
  statics := none }

def pool6 : Array CpInfo := pool [(1, .class_ 2), (0, u "com/example/rasterline/rasterline/cli/ExitStatus"), (2, u "SUCCESS"), (0, u "Lcom/example/rasterline/rasterline/cli/ExitStatus;"), (2, u "USAGE"), (2, u "IO_FAILURE"), (2, u "UNRECOGNIZED"), (2, u "DAMAGED"), (2, u "UNSUPPORTED"), (2, u "$VALUES"), (0, u "[Lcom/example/rasterline/rasterline/cli/ExitStatus;"), (6, .class_ 34), (1, u "java/lang/Enum"), (6, .fieldref 1 42), (0, .nameAndType 43 44), (0, u "code"), (0, u "I"), (33, u "max"), (0, u "(Lcom/example/rasterline/rasterline/cli/ExitStatus;)Lcom/example/rasterline/rasterline/cli/ExitStatus;")] 5

def k6c0 : Code := { maxStack := 2, maxLocals := 2, code := prog_25_method_5_code, exceptionTable := #[], attributes := #[] }
def k6m0 : Method := { name := "max", desc := "(Lcom/example/rasterline/rasterline/cli/ExitStatus;)Lcom/example/rasterline/rasterline/cli/ExitStatus;", sig := { parameters := [(.object "com/example/rasterline/rasterline/cli/ExitStatus")], returnType := some (.object "com/example/rasterline/rasterline/cli/ExitStatus") }, accessFlags := 0, code := some k6c0 }
/-- com/example/rasterline/rasterline/cli/ExitStatus -/
def k6 : Class := { plain "com/example/rasterline/rasterline/cli/ExitStatus" (some 5) with
  accessFlags := 16432
  interfaces := #[]
  cf := some (fileOf pool6 1 #[] #[{ accessFlags := 0, nameIndex := 78, descriptorIndex := 79, attributes := #[] }] 16432 32 #[] #[{ accessFlags := 16409, nameIndex := 5, descriptorIndex := 6, attributes := #[] }, { accessFlags := 16409, nameIndex := 9, descriptorIndex := 6, attributes := #[] }, { accessFlags := 16409, nameIndex := 12, descriptorIndex := 6, attributes := #[] }, { accessFlags := 16409, nameIndex := 15, descriptorIndex := 6, attributes := #[] }, { accessFlags := 16409, nameIndex := 18, descriptorIndex := 6, attributes := #[] }, { accessFlags := 16409, nameIndex := 21, descriptorIndex := 6, attributes := #[] }, { accessFlags := 16, nameIndex := 43, descriptorIndex := 44, attributes := #[] }, { accessFlags := 4122, nameIndex := 24, descriptorIndex := 25, attributes := #[] }])
  fields := #[{ name := "SUCCESS", type := (.object "com/example/rasterline/rasterline/cli/ExitStatus"), accessFlags := 16409, slot := 0, constantValue := 0 }, { name := "USAGE", type := (.object "com/example/rasterline/rasterline/cli/ExitStatus"), accessFlags := 16409, slot := 1, constantValue := 0 }, { name := "IO_FAILURE", type := (.object "com/example/rasterline/rasterline/cli/ExitStatus"), accessFlags := 16409, slot := 2, constantValue := 0 }, { name := "UNRECOGNIZED", type := (.object "com/example/rasterline/rasterline/cli/ExitStatus"), accessFlags := 16409, slot := 3, constantValue := 0 }, { name := "DAMAGED", type := (.object "com/example/rasterline/rasterline/cli/ExitStatus"), accessFlags := 16409, slot := 4, constantValue := 0 }, { name := "UNSUPPORTED", type := (.object "com/example/rasterline/rasterline/cli/ExitStatus"), accessFlags := 16409, slot := 5, constantValue := 0 }, { name := "code", type := .int, accessFlags := 16, slot := 3, constantValue := 0 }, { name := "$VALUES", type := (.array (.object "com/example/rasterline/rasterline/cli/ExitStatus")), accessFlags := 4122, slot := 6, constantValue := 0 }]
  methods := #[k6m0]
  instanceTypes := #[(.object "java/lang/String"), .int, .int, .int]
  staticTypes := #[(.object "com/example/rasterline/rasterline/cli/ExitStatus"), (.object "com/example/rasterline/rasterline/cli/ExitStatus"), (.object "com/example/rasterline/rasterline/cli/ExitStatus"), (.object "com/example/rasterline/rasterline/cli/ExitStatus"), (.object "com/example/rasterline/rasterline/cli/ExitStatus"), (.object "com/example/rasterline/rasterline/cli/ExitStatus"), (.array (.object "com/example/rasterline/rasterline/cli/ExitStatus"))]
  resolved := Array.replicate 85 none
  statics := some 0 }

def pool7 : Array CpInfo := pool [(1, .class_ 2), (0, u "java/lang/Math"), (1, .class_ 6), (1, u "java/lang/Object"), (0, u "<init>"), (0, u "()V"), (89, .class_ 100), (1, u "java/lang/Math$RandomNumberGeneratorHolder"), (71, u "negativeZeroFloatBits"), (0, u "J"), (2, u "negativeZeroDoubleBits"), (21, u "max"), (46, u "$assertionsDisabled"), (0, u "Z"), (88, u "(II)I"), (2, u "twoToTheDoubleScaleDown"), (0, u "D"), (4, u "twoToTheDoubleScaleUp"), (9, u "E"), (3, u "PI"), (2, u "TAU"), (2, u "DEGREES_TO_RADIANS"), (0, u "RADIANS_TO_DEGREES")] 94

def k7m0 : Method := { name := "<init>", desc := "()V", sig := { parameters := [], returnType := none }, accessFlags := 2, code := none }
def k7c1 : Code := { maxStack := 2, maxLocals := 2, code := jdk_29_method_65_code, exceptionTable := #[], attributes := #[] }
def k7m1 : Method := { name := "max", desc := "(II)I", sig := { parameters := [.int, .int], returnType := some .int }, accessFlags := 9, code := some k7c1 }
/-- java/lang/Math -/
def k7 : Class := { plain "java/lang/Math" (some 0) with
  accessFlags := 49
  interfaces := #[]
  cf := some (fileOf pool7 1 #[.nestMembers #[98]] #[{ accessFlags := 2, nameIndex := 7, descriptorIndex := 8, attributes := #[] }, { accessFlags := 9, nameIndex := 198, descriptorIndex := 335, attributes := #[] }] 49 4 #[] #[{ accessFlags := 25, nameIndex := 354, descriptorIndex := 339, attributes := #[] }, { accessFlags := 25, nameIndex := 358, descriptorIndex := 339, attributes := #[] }, { accessFlags := 25, nameIndex := 361, descriptorIndex := 339, attributes := #[] }, { accessFlags := 26, nameIndex := 364, descriptorIndex := 339, attributes := #[] }, { accessFlags := 26, nameIndex := 365, descriptorIndex := 339, attributes := #[] }, { accessFlags := 26, nameIndex := 172, descriptorIndex := 173, attributes := #[] }, { accessFlags := 26, nameIndex := 176, descriptorIndex := 173, attributes := #[] }, { accessFlags := 8, nameIndex := 344, descriptorIndex := 339, attributes := #[] }, { accessFlags := 8, nameIndex := 338, descriptorIndex := 339, attributes := #[] }, { accessFlags := 4120, nameIndex := 245, descriptorIndex := 246, attributes := #[] }])
  fields := #[{ name := "E", type := .double, accessFlags := 25, slot := 0, constantValue := 0 }, { name := "PI", type := .double, accessFlags := 25, slot := 1, constantValue := 0 }, { name := "TAU", type := .double, accessFlags := 25, slot := 2, constantValue := 0 }, { name := "DEGREES_TO_RADIANS", type := .double, accessFlags := 26, slot := 3, constantValue := 0 }, { name := "RADIANS_TO_DEGREES", type := .double, accessFlags := 26, slot := 4, constantValue := 0 }, { name := "negativeZeroFloatBits", type := .long, accessFlags := 26, slot := 5, constantValue := 0 }, { name := "negativeZeroDoubleBits", type := .long, accessFlags := 26, slot := 6, constantValue := 0 }, { name := "twoToTheDoubleScaleUp", type := .double, accessFlags := 8, slot := 7, constantValue := 0 }, { name := "twoToTheDoubleScaleDown", type := .double, accessFlags := 8, slot := 8, constantValue := 0 }, { name := "$assertionsDisabled", type := .boolean, accessFlags := 4120, slot := 9, constantValue := 0 }]
  methods := #[k7m0, k7m1]
  instanceTypes := #[]
  staticTypes := #[.double, .double, .double, .double, .double, .long, .long, .double, .double, .boolean]
  resolved := Array.replicate 460 none
  statics := none }

def pool8 : Array CpInfo := pool [(1, u "java/lang/Cloneable"), (0, .class_ 1), (0, u "java/lang/Object"), (0, .class_ 3)] 3

/-- java/lang/Cloneable -/
def k8 : Class := { plain "java/lang/Cloneable" (some 0) with
  accessFlags := 1537
  interfaces := #[]
  cf := some (fileOf pool8 2 #[] #[] 1537 4 #[] #[])
  fields := #[]
  methods := #[]
  instanceTypes := #[]
  staticTypes := #[]
  resolved := Array.replicate 8 none
  statics := none }

/-- the primitive byte -/
def k9 : Class := { plain "byte" none with kind := .primitive 'B', accessFlags := 0x411 }
/-- [B -/
def k10 : Class := { plain "[B" (some 0) with kind := .array 9 .byte, interfaces := #[8, 4], accessFlags := 1041 }

/-- the primitive int -/
def k11 : Class := { plain "int" none with kind := .primitive 'I', accessFlags := 0x411 }
/-- [I -/
def k12 : Class := { plain "[I" (some 0) with kind := .array 11 .int, interfaces := #[8, 4], accessFlags := 1041 }

def heap : Heap := #[{ cls := 6, slots := #[.ref 1, .ref 2, .ref 3, .ref 4, .ref 5, .ref 6, .null], vm := .statics 6 },
  { cls := 6, slots := #[.null, .int 0, .int 0, .int 0], vm := .none },
  { cls := 6, slots := #[.null, .int 1, .int 0, .int 1], vm := .none },
  { cls := 6, slots := #[.null, .int 2, .int 0, .int 2], vm := .none },
  { cls := 6, slots := #[.null, .int 3, .int 0, .int 3], vm := .none },
  { cls := 6, slots := #[.null, .int 4, .int 0, .int 4], vm := .none },
  { cls := 6, slots := #[.null, .int 5, .int 0, .int 5], vm := .none }]
def classes : Array Class := #[k0, k1, k2, k3, k4, k5, k6, k7, k8, k9, k10, k11, k12]
def interned : List (Array UInt16 × Addr) := []
def slotsUsed : Nat := 31
def theMethod : MethodId := ⟨1, 2⟩
def args0 : Array Value := #[.int 5, .int 7]
def aboutOver (below : List Frame) : State where
  vm := { classes := classes, interned := interned.toArray }
  heap := heap
  slotsUsed := slotsUsed
  threads := #[{ frames := .invoking theMethod args0 :: below }]
def below0 : List Frame := [.native { method := ⟨0, 0⟩, args := #[] }]
def about1 : State := aboutOver below0
def p0 : Program := .bare "" "" ""
def e0 : Env := launch0.env 0 0 0
theorem w_frames : about1.frames = Frame.invoking theMethod args0 :: below0 := rfl
set_option maxRecDepth 65536 in
theorem w_args : argsFit about1.vm theMethod args0 = true := by decide +kernel
set_option maxRecDepth 65536 in
theorem w_heap : heapFits about1 = true := by decide +kernel
set_option maxRecDepth 65536 in
theorem w_runnable : about1.curStatus? = some .runnable := by decide +kernel
set_option maxRecDepth 65536 in
theorem w_alone : about1.alone = true := by decide +kernel
set_option maxRecDepth 65536 in
theorem w_named : about1.methodNamed? x = some theMethod := by decide +kernel
set_option maxRecDepth 65536 in
theorem w_hears : about1.hears theMethod below0 = true := by decide +kernel
set_option maxRecDepth 65536 in
theorem w_ripe : about1.ripe theMethod args0 below0 = true := by decide +kernel
theorem w_running : about1.status = .running := rfl
set_option maxRecDepth 65536 in
theorem w_room : about1.hasRoom e0.platform room_1 = true :=
  launch0.hasRoom_least _ room_1 (by decide +kernel) (by decide +kernel) (by decide +kernel) (by decide +kernel) (by decide +kernel) (by decide +kernel)
theorem allAtoms_all (ts : List Jvm.Cond) (a : Array Jvm.Value) (st : Jvm.State) : (allAtoms ts).before a st = ts.all (fun c => c.before a st) := by
  induction ts with
  | nil => rfl
  | cons c t ih =>
    show (Jvm.Cond.and c (allAtoms t)).before a st = _
    rw [Jvm.Cond.before_and, ih, List.all_cons]
def words1 : List Jvm.Cond := Jvm.Cond.code x code maxLocals ret :: tables_1
/-- a 'code' word, met by the world's own term for the bytes: nothing is compared byte by byte -/
theorem code_word {y : MethodName} {bytes : ByteArray} {mx : Nat} {rt : Option FieldType} {a : Array Value} {s : State} {m : MethodId} {meth : Method} {c : Code} (h1 : s.methodNamed? y = some m) (h2 : s.vm.method? m = some meth) (h3 : meth.code = some c) (h4 : c.code = bytes)
    (h5 : (c.maxLocals == mx && c.exceptionTable.isEmpty && decide (c.maxStack ≤ mostOperands) && decide (meth.sig.returnType = rt) && !meth.locks && decide (parseMethodDescriptor y.desc = some meth.sig)) = true) : (Jvm.Cond.code y bytes mx rt).before a s = true := by
  simp only [Bool.and_eq_true, beq_iff_eq, Bool.not_eq_true', decide_eq_true_eq] at h5
  obtain ⟨⟨⟨⟨⟨g1, g2⟩, g3⟩, g4⟩, g5⟩, g6⟩ := h5
  simp [Cond.before, Cond.holds, Cond.value, h1, h2, h3, h4, g1, g2, g3, g4, g5, g6]
def isCode : Jvm.Cond → Bool
  | .code _ _ _ _ => true
  | _ => false
theorem all_split {L : List Jvm.Cond} {P : Jvm.Cond → Bool} (h1 : L.all (fun c => isCode c || P c) = true) (h2 : ∀ c ∈ L.filter isCode, P c = true) : L.all P = true := by
  refine List.all_eq_true.mpr fun c hc => ?_
  have h := List.all_eq_true.mp h1 c hc
  rcases Bool.eq_false_or_eq_true (isCode c) with hi | hi
  · exact h2 c (List.mem_filter.mpr ⟨hc, hi⟩)
  · simpa [hi] using h
set_option maxRecDepth 65536 in
theorem w_c0 : (Jvm.Cond.code x code maxLocals ret).before args0 about1 = true := code_word (m := ⟨1, 2⟩) (meth := k1m2) (c := k1c2) (by decide +kernel) rfl rfl rfl (by decide +kernel)
set_option maxRecDepth 65536 in
theorem w_c1 : (Jvm.Cond.code ({ cls := "com/example/rasterline/rasterline/cli/ExitStatusMaxPinLaw", name := "pick", desc := "(I)Lcom/example/rasterline/rasterline/cli/ExitStatus;" } : Jvm.MethodName) method_2_code (1 : Nat) (Option.some (Jvm.ClassFile.FieldType.object "com/example/rasterline/rasterline/cli/ExitStatus"))).before args0 about1 = true := code_word (m := ⟨1, 1⟩) (meth := k1m1) (c := k1c1) (by decide +kernel) rfl rfl rfl (by decide +kernel)
set_option maxRecDepth 65536 in
theorem w_c2 : (Jvm.Cond.code ({ cls := "java/lang/Math", name := "max", desc := "(II)I" } : Jvm.MethodName) jdk_29_method_65_code (2 : Nat) (Option.some Jvm.ClassFile.FieldType.int)).before args0 about1 = true := code_word (m := ⟨7, 1⟩) (meth := k7m1) (c := k7c1) (by decide +kernel) rfl rfl rfl (by decide +kernel)
set_option maxRecDepth 65536 in
theorem w_c3 : (Jvm.Cond.code ({ cls := "com/example/rasterline/rasterline/cli/ExitStatus", name := "max", desc := "(Lcom/example/rasterline/rasterline/cli/ExitStatus;)Lcom/example/rasterline/rasterline/cli/ExitStatus;" } : Jvm.MethodName) prog_25_method_5_code (2 : Nat) (Option.some (Jvm.ClassFile.FieldType.object "com/example/rasterline/rasterline/cli/ExitStatus"))).before args0 about1 = true := code_word (m := ⟨6, 0⟩) (meth := k6m0) (c := k6c0) (by decide +kernel) rfl rfl rfl (by decide +kernel)
def codes1 : List Jvm.Cond := [Jvm.Cond.code x code maxLocals ret, Jvm.Cond.code ({ cls := "com/example/rasterline/rasterline/cli/ExitStatusMaxPinLaw", name := "pick", desc := "(I)Lcom/example/rasterline/rasterline/cli/ExitStatus;" } : Jvm.MethodName) method_2_code (1 : Nat) (Option.some (Jvm.ClassFile.FieldType.object "com/example/rasterline/rasterline/cli/ExitStatus")), Jvm.Cond.code ({ cls := "java/lang/Math", name := "max", desc := "(II)I" } : Jvm.MethodName) jdk_29_method_65_code (2 : Nat) (Option.some Jvm.ClassFile.FieldType.int), Jvm.Cond.code ({ cls := "com/example/rasterline/rasterline/cli/ExitStatus", name := "max", desc := "(Lcom/example/rasterline/rasterline/cli/ExitStatus;)Lcom/example/rasterline/rasterline/cli/ExitStatus;" } : Jvm.MethodName) prog_25_method_5_code (2 : Nat) (Option.some (Jvm.ClassFile.FieldType.object "com/example/rasterline/rasterline/cli/ExitStatus"))]
set_option maxRecDepth 65536 in
theorem codes_eq : words1.filter isCode = codes1 := rfl
theorem w_codes : ∀ c ∈ words1.filter isCode, c.before args0 about1 = true := by
  rw [codes_eq]
  intro c hc
  simp only [codes1, List.mem_cons, List.not_mem_nil, or_false] at hc
  rcases hc with rfl | rfl | rfl | rfl
  · exact w_c0
  · exact w_c1
  · exact w_c2
  · exact w_c3
set_option maxRecDepth 65536 in
theorem w_t1 : (words1.take 24).all (fun c => isCode c || c.before args0 about1) = true := by decide +kernel
set_option maxRecDepth 65536 in
theorem w_t2 : (words1.drop 24).all (fun c => isCode c || c.before args0 about1) = true := by decide +kernel
theorem w_tables : (allAtoms (Jvm.Cond.code x code maxLocals ret :: tables_1)).before args0 about1 = true := by
  rw [allAtoms_all]
  show words1.all (fun c => c.before args0 about1) = true
  refine all_split ?_ w_codes
  rw [← List.take_append_drop 24 words1, List.all_append, w_t1, w_t2]
  rfl
set_option maxRecDepth 65536 in
theorem w_case : (Jvm.Cond.and given_1 narrow_1).before args0 about1 = true := by decide +kernel
theorem w_applies : (headSpec (Jvm.Cond.code x code maxLocals ret :: tables_1) room_1).applies x e0.platform about1 = true :=
  (Spec.applies_iff w_frames).mpr ⟨w_running, w_runnable, w_alone, w_named, w_hears, w_ripe, w_room, w_tables⟩
theorem atStart : AtStart classFile x code maxLocals ret World_1 tables_1 room_1 Calls_1 rest_1 Pre_1 launch0 p0 e0 about1 theMethod args0 below0 :=
  ⟨lists_1, trivial, launch0.admits_env _ _ _, launch0.least_env, fairChoices_fair.cas, fairChoices_fair.clock, w_frames, w_args, w_heap, w_applies, trivial, trivial, w_case⟩
end start1
theorem witness_1 : WitnessClaimed_1 := ⟨start1.p0, start1.e0, start1.about1, start1.theMethod, start1.args0, start1.below0, start1.atStart⟩
end Jvm.Pilot.@@N@@
