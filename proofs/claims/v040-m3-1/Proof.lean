import JvmDerived
import JvmDerived.Pilot.@@N@@Statement
import JvmDerived.Pilot.@@N@@Code
set_option linter.unusedVariables false
set_option linter.unusedSimpArgs false
namespace Jvm.RoadKit
open Sem ClassFile Op Lib Jvm.Stand Jvm.Free Jvm.LawKit
section New
variable {p : Program} {l : Launch} {e : Env} {R : Room} {s : State} {m : MethodId} {args : Array Value} {below : List Frame} {meth : Method} {c : Code} {T : State} {locs : List Loc} {cells slots : Nat}
theorem retI (X : Stand p l e R s m args below meth c T locs cells slots) (hx : p.tables.exec = Jvm.exec) {pc : Nat} {Ls : Array Slot} {z : Int32} {rest : List Value} (hret : meth.sig.returnType = some .int) (hd : decode c.code pc = .ok (.ireturn, 1)) {fs : List Frame}
    (hl : ∀ (f : JFrame) (acts : List Action), f.method = m → f.locked = none → f.entered = [] → (doReturn e (T.setTop f) acts (some (.int z))).1 = T.setFrames fs) : Steps p.tables e below (T.setTop (mkF m pc Ls (.int z :: rest))) (T.setFrames fs) := by
  have hm' : T.vm.method? m = some meth := X.method'
  have hn : narrow .int (.int z) = .int z := rfl
  show Steps p.tables e below (T.setTop { method := m, pc := pc, locals := Ls, stack := _ :: rest, locked := none }) _
  jvm_step X.here [X.here.top, hx, hd, hm', hret, hn]
  first | (intro acts; rw [hl _ acts rfl rfl rfl]) | rw [hl _ _ rfl rfl rfl]
  exact Steps.refl _
theorem retJ (X : Stand p l e R s m args below meth c T locs cells slots) (hx : p.tables.exec = Jvm.exec) {pc : Nat} {Ls : Array Slot} {z : Int64} {rest : List Value} (hret : meth.sig.returnType = some .long) (hd : decode c.code pc = .ok (.lreturn, 1)) {fs : List Frame}
    (hl : ∀ (f : JFrame) (acts : List Action), f.method = m → f.locked = none → f.entered = [] → (doReturn e (T.setTop f) acts (some (.long z))).1 = T.setFrames fs) : Steps p.tables e below (T.setTop (mkF m pc Ls (.long z :: rest))) (T.setFrames fs) := by
  have hm' : T.vm.method? m = some meth := X.method'
  show Steps p.tables e below (T.setTop { method := m, pc := pc, locals := Ls, stack := _ :: rest, locked := none }) _
  jvm_step X.here [X.here.top, hx, hd, hm', hret, narrow]
  first | (intro acts; rw [hl _ acts rfl rfl rfl]) | rw [hl _ _ rfl rfl rfl]
  exact Steps.refl _
theorem retA (X : Stand p l e R s m args below meth c T locs cells slots) (hx : p.tables.exec = Jvm.exec) {pc : Nat} {Ls : Array Slot} {z : Value} {t : FieldType} {rest : List Value} (hret : meth.sig.returnType = some t) (ht : t.isReference = true) (hz : z.isRef = true) (hd : decode c.code pc = .ok (.areturn, 1)) {fs : List Frame}
    (hl : ∀ (f : JFrame) (acts : List Action), f.method = m → f.locked = none → f.entered = [] → (doReturn e (T.setTop f) acts (some z)).1 = T.setFrames fs) : Steps p.tables e below (T.setTop (mkF m pc Ls (z :: rest))) (T.setFrames fs) := by
  have hm' : T.vm.method? m = some meth := X.method'
  show Steps p.tables e below (T.setTop { method := m, pc := pc, locals := Ls, stack := _ :: rest, locked := none }) _
  jvm_step X.here [X.here.top, hx, hd, hm', hret, hz, ht]
  first | (intro acts; rw [hl _ acts rfl rfl rfl]) | rw [hl _ _ rfl rfl rfl]
  exact Steps.refl _
/-- what a body's contract owes from a state on -/
def Owe (p : Program) (e : Env) (below : List Frame) (first : State) (ck sk : Nat) (Q : Option Value → Heap → List Loc → Prop) (T : State) (g : JFrame) : Prop :=
  ∃ s₂ o, Steps p.tables e below (T.setTop g) s₂ ∧ s₂.status = .running ∧ Ended s₂ below o ∧ ∃ v L, o = .returned v ∧ Q v s₂.heap L ∧ FrameEnd first o s₂ L ck sk
theorem Owe.step {first : State} {ck sk : Nat} {Q : Option Value → Heap → List Loc → Prop} {T T' : State} {g g' : JFrame} (h : ∀ t, Steps p.tables e below (T'.setTop g') t → Steps p.tables e below (T.setTop g) t)
    (k : Owe p e below first ck sk Q T' g') : Owe p e below first ck sk Q T g := by
  obtain ⟨s₂, o, h1, h2⟩ := k
  exact ⟨s₂, o, h _ h1, h2⟩
theorem Owe.ret {ck sk : Nat} {Q : Option Value → Heap → List Loc → Prop} {g : JFrame} (X : Stand p l e R s m args below meth c T locs cells slots) (hlk : meth.locks = false) {v : Option Value} (hv : meth.sig.returnType = none → v = none)
    (hst : ∀ fs, (∀ (f : JFrame) (acts : List Action), f.method = m → f.locked = none → f.entered = [] → (doReturn e (T.setTop f) acts v).1 = T.setFrames fs) → Steps p.tables e below (T.setTop g) (T.setFrames fs))
    (hQ : Q v T.heap locs) (hc : cells ≤ ck) (hs : slots ≤ sk) : Owe p e below s ck sk Q T g := by
  obtain ⟨fs, hr, hrun, hended, hW, hsame⟩ := X.leave (v := v) hv hlk
  exact ⟨_, _, hst fs hr, hrun, hended, _, _, rfl, hQ, ⟨_, rfl⟩, hW, hsame.mono hc hs⟩
/-- a body that writes nothing and makes nothing: it returns w -/
def QP (w : Value) (h0 : Heap) (n0 : Nat) (v : Option Value) (h : Heap) (L : List Loc) : Prop := v = some w ∧ Fr n0 L ∧ h = h0
/-- .. and returns nothing -/
def QN (h0 : Heap) (n0 : Nat) (v : Option Value) (h : Heap) (L : List Loc) : Prop := v = none ∧ Fr n0 L ∧ h = h0
/-- the law itself -/
def QL (w : Value) (n0 : Nat) (v : Option Value) (h : Heap) (L : List Loc) : Prop := v = some w ∧ Fr n0 L
theorem Owe.cast {first : State} {ck sk n0 : Nat} {w w' : Int32} {g : JFrame} (q : w' = w) (k : Owe p e below first ck sk (QL (.int w') n0) T g) : Owe p e below first ck sk (QL (.int w) n0) T g := q ▸ k
end New
end Jvm.RoadKit
namespace Jvm.Pilot.@@N@@
open Jvm Jvm.ClassFile Sem Op Lib Jvm.Free Jvm.Stand Jvm.LawKit Jvm.RoadKit Bundle Jvm.Pilot.@@N@@.Jvm.D
theorem own_d1_0 : decode prog_22_method_2_code 0 = .ok (.iload_n 0, 1) := by decide +kernel
theorem own_d1_1 : decode prog_22_method_2_code 1 = .ok (.sipush 3000, 3) := by decide +kernel
theorem own_d1_4 : decode prog_22_method_2_code 4 = .ok (.if_icmp .lt 14, 3) := by decide +kernel
theorem own_d1_7 : decode prog_22_method_2_code 7 = .ok (.iload_n 0, 1) := by decide +kernel
theorem own_d1_8 : decode prog_22_method_2_code 8 = .ok (.sipush 4000, 3) := by decide +kernel
theorem own_d1_11 : decode prog_22_method_2_code 11 = .ok (.if_icmp .ge 7, 3) := by decide +kernel
theorem own_d1_14 : decode prog_22_method_2_code 14 = .ok (.iconst 1, 1) := by decide +kernel
theorem own_d1_15 : decode prog_22_method_2_code 15 = .ok (.goto 4, 3) := by decide +kernel
theorem own_d1_18 : decode prog_22_method_2_code 18 = .ok (.iconst 0, 1) := by decide +kernel
theorem own_d1_19 : decode prog_22_method_2_code 19 = .ok (.ireturn, 1) := by decide +kernel
theorem own_pn0 : plainName "com/example/tariffwise/tariffwise/diameter/ResultCode" = true := by first | (simp [plainName, overriddenIn]; done) | decide +kernel
theorem own_ef1 (m : MethodId) (p0 : Int32) : entryFrame m #[(.int p0)] 1 = mkF m 0 #[.val (.int p0)] [] := by first | (simp [entryFrame, mkF, argsToLocals, Value.category]; done) | rfl
def own_f1_0 (p0 : Int32) : Int32 := (if p0 < (3000 : Int32) then (0 : Int32) else (if p0 < (4000 : Int32) then (1 : Int32) else (0 : Int32)))
set_option maxRecDepth 65536 in
set_option maxHeartbeats 40000000 in
theorem own_rm1 (l : Launch) (Z : State) (a0 : Array Value) (hw : ∀ d ∈ tables_1, d.before a0 Z = true) (ws : List Jvm.Cond) (p0 : Int32)  (h0 : Heap) (n0 : Nat) (Z0 : n0 ≤ h0.size) :
    MetFree l (⟨"com/example/tariffwise/tariffwise/diameter/ResultCode", "isProtocolError", "(I)Z"⟩ : MethodName) (head1 (Jvm.Cond.code (⟨"com/example/tariffwise/tariffwise/diameter/ResultCode", "isProtocolError", "(I)Z"⟩ : MethodName) prog_22_method_2_code 1 (some .boolean) :: ws) ({ frames := 0, cells := 0, slots := 0, locals := 0 } : Room)) (fun a U => a = #[(.int p0)] ∧ Z.Warmed39 U.vm ∧ U.heap = h0) (fun _ _ _ _ _ => True) (fun _ U o U' => ∃ v L, o = .returned v ∧ (QP (.int (own_f1_0 p0)) h0 n0) v U'.heap L ∧ FrameEnd U o U' L ({ frames := 0, cells := 0, slots := 0, locals := 0 } : Room).cells ({ frames := 0, cells := 0, slots := 0, locals := 0 } : Room).slots) := by
  refine MetFree.of_bodySF (plainFor_of_name own_pn0) hisR ?_
  intro p e s m args below meth c s₁ Bd hml0 hP hK
  obtain ⟨rfl, hZ, hh⟩ := hP
  have hx := Bd.exec
  have hby := Bd.bytes
  have hml : c.maxLocals = 1 := hml0
  have hown : s.vm.findClass "com/example/tariffwise/tariffwise/diameter/ResultCode" = some m.cls := findClass_of_methodNamed Bd.named
  have hnm := (name_of_methodNamed Bd.named Bd.method).1
  have X0 : Stand p l e ({ frames := 0, cells := 0, slots := 0, locals := 0 } : Room) s m #[(.int p0)] below meth c s₁ [] 0 0 := Stand.of_body Bd
  have e0 : s₁.heap = h0 := by rw [← hh, Bd.state]; rfl
  have N0 := Fr.nil n0
  refine Owe.step (T := s₁) (T' := s₁) (g' := (mkF m 0 #[.val (.int p0)] [])) (fun t k => castTop (own_ef1 m p0) k) ?_
  refine Owe.step (T' := s₁) (g' := (mkF m 4 #[.val (.int p0)] [(.int (3000 : Int32)), (.int p0)])) (fun t k => ?_) ?_
  · show Steps p.tables e below (s₁.setTop (mkF m 0 #[.val (.int p0)] [])) t
    refine XS.iloadN X0.here hx rfl (hb hby own_d1_0) rfl ?_
    show Steps p.tables e below (s₁.setTop (mkF m 1 #[.val (.int p0)] [(.int p0)])) t
    refine XS.sipush X0.here hx rfl (hb hby own_d1_1) ?_
    show Steps p.tables e below (s₁.setTop (mkF m 4 #[.val (.int p0)] [(.int (3000 : Int32)), (.int p0)])) t
    exact k
  by_cases hc4 : p0 < (3000 : Int32)
  · refine Owe.step (T' := s₁) (g' := (mkF m 18 #[.val (.int p0)] [])) (fun t k => ?_) ?_
    · show Steps p.tables e below (s₁.setTop (mkF m 4 #[.val (.int p0)] [(.int (3000 : Int32)), (.int p0)])) t
      refine XS.icmpYes X0.here hx rfl (pc0 := 4) (pc' := 18) rfl (hb hby own_d1_4) rfl (tlt hc4).1 (by decide) (by decide) ?_
      show Steps p.tables e below (s₁.setTop (mkF m 18 #[.val (.int p0)] [])) t
      exact k
    rw [show own_f1_0 p0 = (0 : Int32) from (by rw [own_f1_0, if_pos hc4])]
    refine Owe.ret X0 Bd.notSynchronized (v := (some (.int (0 : Int32)))) (fun h => by rw [Bd.returns] at h; cases h) (fun fs hr => ?_) ⟨rfl, N0, e0⟩ (by decide) (by decide)
    show Steps p.tables e below (s₁.setTop (mkF m 18 #[.val (.int p0)] [])) _
    refine XS.iconst X0.here hx rfl (hb hby own_d1_18) ?_
    show Steps p.tables e below (s₁.setTop (mkF m 19 #[.val (.int p0)] [(.int (0 : Int32))])) _
    exact retN X0 hx (t := .boolean) Bd.returns (by simp) (hb hby own_d1_19) hr
  · refine Owe.step (T' := s₁) (g' := (mkF m 7 #[.val (.int p0)] [])) (fun t k => ?_) ?_
    · show Steps p.tables e below (s₁.setTop (mkF m 4 #[.val (.int p0)] [(.int (3000 : Int32)), (.int p0)])) t
      refine XS.icmpNo X0.here hx rfl (hb hby own_d1_4) rfl (flt hc4).1 ?_
      show Steps p.tables e below (s₁.setTop (mkF m 7 #[.val (.int p0)] [])) t
      exact k
    refine Owe.step (T' := s₁) (g' := (mkF m 11 #[.val (.int p0)] [(.int (4000 : Int32)), (.int p0)])) (fun t k => ?_) ?_
    · show Steps p.tables e below (s₁.setTop (mkF m 7 #[.val (.int p0)] [])) t
      refine XS.iloadN X0.here hx rfl (hb hby own_d1_7) rfl ?_
      show Steps p.tables e below (s₁.setTop (mkF m 8 #[.val (.int p0)] [(.int p0)])) t
      refine XS.sipush X0.here hx rfl (hb hby own_d1_8) ?_
      show Steps p.tables e below (s₁.setTop (mkF m 11 #[.val (.int p0)] [(.int (4000 : Int32)), (.int p0)])) t
      exact k
    by_cases hc11 : p0 < (4000 : Int32)
    · refine Owe.step (T' := s₁) (g' := (mkF m 14 #[.val (.int p0)] [])) (fun t k => ?_) ?_
      · show Steps p.tables e below (s₁.setTop (mkF m 11 #[.val (.int p0)] [(.int (4000 : Int32)), (.int p0)])) t
        refine XS.icmpNo X0.here hx rfl (hb hby own_d1_11) rfl (tlt hc11).2.1 ?_
        show Steps p.tables e below (s₁.setTop (mkF m 14 #[.val (.int p0)] [])) t
        exact k
      rw [show own_f1_0 p0 = (1 : Int32) from (by rw [own_f1_0, if_neg hc4, if_pos hc11])]
      refine Owe.ret X0 Bd.notSynchronized (v := (some (.int (1 : Int32)))) (fun h => by rw [Bd.returns] at h; cases h) (fun fs hr => ?_) ⟨rfl, N0, e0⟩ (by decide) (by decide)
      show Steps p.tables e below (s₁.setTop (mkF m 14 #[.val (.int p0)] [])) _
      refine XS.iconst X0.here hx rfl (hb hby own_d1_14) ?_
      show Steps p.tables e below (s₁.setTop (mkF m 15 #[.val (.int p0)] [(.int (1 : Int32))])) _
      refine XS.goto X0.here hx rfl (pc0 := 15) (pc' := 19) rfl (hb hby own_d1_15) (by decide) (by decide) ?_
      show Steps p.tables e below (s₁.setTop (mkF m 19 #[.val (.int p0)] [(.int (1 : Int32))])) _
      exact retN X0 hx (t := .boolean) Bd.returns (by simp) (hb hby own_d1_19) hr
    · refine Owe.step (T' := s₁) (g' := (mkF m 18 #[.val (.int p0)] [])) (fun t k => ?_) ?_
      · show Steps p.tables e below (s₁.setTop (mkF m 11 #[.val (.int p0)] [(.int (4000 : Int32)), (.int p0)])) t
        refine XS.icmpYes X0.here hx rfl (pc0 := 11) (pc' := 18) rfl (hb hby own_d1_11) rfl (flt hc11).2.1 (by decide) (by decide) ?_
        show Steps p.tables e below (s₁.setTop (mkF m 18 #[.val (.int p0)] [])) t
        exact k
      rw [show own_f1_0 p0 = (0 : Int32) from (by rw [own_f1_0, if_neg hc4, if_neg hc11])]
      refine Owe.ret X0 Bd.notSynchronized (v := (some (.int (0 : Int32)))) (fun h => by rw [Bd.returns] at h; cases h) (fun fs hr => ?_) ⟨rfl, N0, e0⟩ (by decide) (by decide)
      show Steps p.tables e below (s₁.setTop (mkF m 18 #[.val (.int p0)] [])) _
      refine XS.iconst X0.here hx rfl (hb hby own_d1_18) ?_
      show Steps p.tables e below (s₁.setTop (mkF m 19 #[.val (.int p0)] [(.int (0 : Int32))])) _
      exact retN X0 hx (t := .boolean) Bd.returns (by simp) (hb hby own_d1_19) hr
theorem own_pd0 : parseMethodDescriptor "(I)Z" = some ⟨[.int], some .boolean⟩ := by decide +kernel
theorem own_pn1 : plainName "com/example/tariffwise/tariffwise/diameter/ResultCodeIsProtocolErrorPinLaw" = true := by first | (simp [plainName, overriddenIn]; done) | decide +kernel
theorem own_ef0 (m : MethodId) (p0 : Int32) : entryFrame m #[(.int p0)] maxLocals = mkF m 0 #[.val (.int p0), .unset, .unset] [] := by first | (simp [entryFrame, mkF, argsToLocals, Value.category, maxLocals]; done) | rfl
def own_f0_14 (p0 : Int32) (t14_0 : Int32) : Int32 := (if (own_f1_0 p0) = t14_0 then (if (own_f1_0 (3001 : Int32)) = (0 : Int32) then (0 : Int32) else (if (own_f1_0 (3007 : Int32)) = (0 : Int32) then (0 : Int32) else (if (own_f1_0 (2001 : Int32)) = (0 : Int32) then (if (own_f1_0 (4012 : Int32)) = (0 : Int32) then (if (own_f1_0 (5012 : Int32)) = (0 : Int32) then (1 : Int32) else (0 : Int32)) else (0 : Int32)) else (0 : Int32)))) else (0 : Int32))
def own_f0_0 (p0 : Int32) : Int32 := (if (p0 / (1000 : Int32)) = (3 : Int32) then (own_f0_14 p0 (1 : Int32)) else (own_f0_14 p0 (0 : Int32)))
theorem own_pe (x : Int32) : (own_f1_0 x = 1 ∧ 3000 ≤ x.toInt ∧ x.toInt < 4000) ∨ (own_f1_0 x = 0 ∧ ¬ (3000 ≤ x.toInt ∧ x.toInt < 4000)) := by
  unfold own_f1_0
  split
  · rename_i h; simp only [Int32.lt_iff_toInt_lt, Int32.reduceToInt] at h; exact Or.inr ⟨rfl, by omega⟩
  · split
    · rename_i h g; simp only [Int32.lt_iff_toInt_lt, Int32.reduceToInt] at h g; exact Or.inl ⟨rfl, by omega⟩
    · rename_i h g; simp only [Int32.lt_iff_toInt_lt, Int32.reduceToInt] at h g; exact Or.inr ⟨rfl, by omega⟩
theorem own_law (p0 : Int32) : own_f0_0 p0 = 1 := by
  have c1 : own_f1_0 3001 = 1 := by decide
  have c2 : own_f1_0 3007 = 1 := by decide
  have c3 : own_f1_0 2001 = 0 := by decide
  have c4 : own_f1_0 4012 = 0 := by decide
  have c5 : own_f1_0 5012 = 0 := by decide
  have n1 : ¬ ((1 : Int32) = 0) := by decide
  have n0 : ¬ ((0 : Int32) = 1) := by decide
  have hd := c_idiv p0 1000 1000 (by decide) (by decide)
  have he : p0 / 1000 = 3 ↔ (p0 / 1000).toInt = 3 := by rw [← Int32.toInt_inj]; exact Iff.rfl
  unfold own_f0_0 own_f0_14
  rcases own_pe p0 with ⟨e, h⟩ | ⟨e, h⟩
  · have q : p0 / 1000 = 3 := by rw [he]; omega
    simp only [e, c1, c2, c3, c4, c5, q, n1, if_true, if_false]
  · have q : ¬ p0 / 1000 = 3 := by rw [he]; omega
    simp only [e, c1, c2, c3, c4, c5, q, n1, if_true, if_false]
set_option maxRecDepth 65536 in
set_option maxHeartbeats 40000000 in
theorem own_rm0 (l : Launch) (Z : State) (a0 : Array Value) (hw : ∀ d ∈ tables_1, d.before a0 Z = true) (ws : List Jvm.Cond) (p0 : Int32)  (h0 : Heap) (n0 : Nat) (Z0 : n0 ≤ h0.size) :
    MetFree l x (head1 (Jvm.Cond.code x code maxLocals ret :: ws) room_1) (fun a U => a = #[(.int p0)] ∧ Z.Warmed39 U.vm ∧ U.heap = h0) (fun _ _ _ _ _ => True) (fun _ U o U' => ∃ v L, o = .returned v ∧ (QL (.int ((1 : Int32))) n0) v U'.heap L ∧ FrameEnd U o U' L 0 0) := by
  refine MetFree.of_bodySF (plainFor_of_name own_pn1) hisR ?_
  intro p e s m args below meth c s₁ Bd hml0 hP hK
  obtain ⟨rfl, hZ, hh⟩ := hP
  have hx := Bd.exec
  have hby := Bd.bytes
  have hml : c.maxLocals = 3 := hml0
  have hown : s.vm.findClass "com/example/tariffwise/tariffwise/diameter/ResultCodeIsProtocolErrorPinLaw" = some m.cls := findClass_of_methodNamed Bd.named
  have hnm := (name_of_methodNamed Bd.named Bd.method).1
  have X0 : Stand p l e room_1 s m #[(.int p0)] below meth c s₁ [] 0 0 := Stand.of_body Bd
  have e0 : s₁.heap = h0 := by rw [← hh, Bd.state]; rfl
  have N0 := Fr.nil n0
  refine Owe.step (T := s₁) (T' := s₁) (g' := (mkF m 0 #[.val (.int p0), .unset, .unset] [])) (fun t k => castTop (own_ef0 m p0) k) ?_
  refine Owe.step (T' := s₁) (g' := (mkF m 6 #[.val (.int p0), .unset, .unset] [(.int (3 : Int32)), (.int (p0 / (1000 : Int32)))])) (fun t k => ?_) ?_
  · show Steps p.tables e below (s₁.setTop (mkF m 0 #[.val (.int p0), .unset, .unset] [])) t
    refine XS.iloadN X0.here hx rfl (hb hby at_0) rfl ?_
    show Steps p.tables e below (s₁.setTop (mkF m 1 #[.val (.int p0), .unset, .unset] [(.int p0)])) t
    refine XS.sipush X0.here hx rfl (hb hby at_1) ?_
    show Steps p.tables e below (s₁.setTop (mkF m 4 #[.val (.int p0), .unset, .unset] [(.int (1000 : Int32)), (.int p0)])) t
    refine XS.idiv X0.here hx rfl (hb hby at_4) rfl (by decide) ?_
    show Steps p.tables e below (s₁.setTop (mkF m 5 #[.val (.int p0), .unset, .unset] [(.int (p0 / (1000 : Int32)))])) t
    refine XS.iconst X0.here hx rfl (hb hby at_5) ?_
    show Steps p.tables e below (s₁.setTop (mkF m 6 #[.val (.int p0), .unset, .unset] [(.int (3 : Int32)), (.int (p0 / (1000 : Int32)))])) t
    exact k
  have j14 : ∀ (T : State) (Lc : List Loc) (X : Stand p l e room_1 s m #[(.int p0)] below meth c T Lc 0 0) (eT : T.heap = h0) (N : Fr n0 Lc) (t14_0 : Int32), Owe p e below s 0 0 (QL (.int (own_f0_14 p0 t14_0)) n0) T (mkF m 14 #[.val (.int p0), .unset, .unset] [(.int t14_0)]) := by
    intro T14j Lc14j X14j e14j N14j t14_0
    obtain ⟨_, _, ⟨T1, L1, k1, n1⟩, -, X1, ⟨Lc1, hQ1, l1, y1, z1⟩, st1⟩ := Jvm.LawKit.callS X14j hx (y := (⟨"com/example/tariffwise/tariffwise/diameter/ResultCode", "isProtocolError", "(I)Z"⟩ : MethodName)) hown (mvT hZ (hw _ (List.mem_of_getElem? (i := 0) rfl))) (mvT hZ (hw _ (List.mem_of_getElem? (i := 1) rfl))) (mvT hZ (hw _ (List.mem_of_getElem? (i := 2) rfl))) (mvT hZ (hw _ (List.mem_of_getElem? (i := 3) rfl))) (by decide) (backOf (W := 0) (own_rm1 l Z a0 hw [] p0 h0 n0 Z0 ) hZ (hw _ (List.mem_of_getElem? (i := 3) rfl)) (hw _ (List.mem_of_getElem? (i := 2) rfl)) (by decide) (by decide)) (g := (mkF m 16 #[.val (.int p0), .val (.int t14_0), .unset] [(.int p0)])) rfl (by rw [hml]; rfl) (argsL := [(.int p0)]) (rest := []) (lenOf own_pd0 rfl) rfl (by show 2 * 0 + _ ≤ _; exact Nat.le_of_eq rfl) (hb hby at_16) (fun _ _ => ⟨rfl, e14j, (by decide : 0 + 0 ≤ _), (by decide : 0 + 0 ≤ _)⟩)
    dsimp only [Pt.U, Pt.locs, Pt.cells, Pt.slots] at X1 l1 y1 z1 st1 hQ1
    subst l1 y1 z1
    obtain ⟨rfl, N1q, e1⟩ := hQ1
    have N1 := Fr.app N14j N1q
    refine Owe.step (T' := T1) (g' := (mkF m 22 #[.val (.int p0), .val (.int t14_0), .val (.int (own_f1_0 p0))] [(.int t14_0), (.int (own_f1_0 p0))])) (fun t k => ?_) ?_
    · show Steps p.tables e below (T14j.setTop (mkF m 14 #[.val (.int p0), .unset, .unset] [(.int t14_0)])) t
      refine XS.istoreN X14j.here hx rfl (hb hby at_14) rfl (l' := #[.val (.int p0), .val (.int t14_0), .unset]) rfl ?_
      show Steps p.tables e below (T14j.setTop (mkF m 15 #[.val (.int p0), .val (.int t14_0), .unset] [])) t
      refine XS.iloadN X14j.here hx rfl (hb hby at_15) rfl ?_
      show Steps p.tables e below (T14j.setTop (mkF m 16 #[.val (.int p0), .val (.int t14_0), .unset] [(.int p0)])) t
      refine st1 _ ?_
      show Steps p.tables e below (T1.setTop (mkF m 19 #[.val (.int p0), .val (.int t14_0), .unset] [(.int (own_f1_0 p0))])) t
      refine XS.istoreN X1.here hx rfl (hb hby at_19) rfl (l' := #[.val (.int p0), .val (.int t14_0), .val (.int (own_f1_0 p0))]) rfl ?_
      show Steps p.tables e below (T1.setTop (mkF m 20 #[.val (.int p0), .val (.int t14_0), .val (.int (own_f1_0 p0))] [])) t
      refine XS.iloadN X1.here hx rfl (hb hby at_20) rfl ?_
      show Steps p.tables e below (T1.setTop (mkF m 21 #[.val (.int p0), .val (.int t14_0), .val (.int (own_f1_0 p0))] [(.int (own_f1_0 p0))])) t
      refine XS.iloadN X1.here hx rfl (hb hby at_21) rfl ?_
      show Steps p.tables e below (T1.setTop (mkF m 22 #[.val (.int p0), .val (.int t14_0), .val (.int (own_f1_0 p0))] [(.int t14_0), (.int (own_f1_0 p0))])) t
      exact k
    by_cases hc22 : (own_f1_0 p0) = t14_0
    · refine Owe.step (T' := T1) (g' := (mkF m 27 #[.val (.int p0), .val (.int t14_0), .val (.int (own_f1_0 p0))] [])) (fun t k => ?_) ?_
      · show Steps p.tables e below (T1.setTop (mkF m 22 #[.val (.int p0), .val (.int t14_0), .val (.int (own_f1_0 p0))] [(.int t14_0), (.int (own_f1_0 p0))])) t
        refine XS.icmpYes X1.here hx rfl (pc0 := 22) (pc' := 27) rfl (hb hby at_22) rfl (teq hc22).1 (by decide) (by decide) ?_
        show Steps p.tables e below (T1.setTop (mkF m 27 #[.val (.int p0), .val (.int t14_0), .val (.int (own_f1_0 p0))] [])) t
        exact k
      obtain ⟨_, _, ⟨T2, L2, k2, n2⟩, -, X2, ⟨Lc2, hQ2, l2, y2, z2⟩, st2⟩ := Jvm.LawKit.callS X1 hx (y := (⟨"com/example/tariffwise/tariffwise/diameter/ResultCode", "isProtocolError", "(I)Z"⟩ : MethodName)) hown (mvT hZ (hw _ (List.mem_of_getElem? (i := 0) rfl))) (mvT hZ (hw _ (List.mem_of_getElem? (i := 1) rfl))) (mvT hZ (hw _ (List.mem_of_getElem? (i := 2) rfl))) (mvT hZ (hw _ (List.mem_of_getElem? (i := 3) rfl))) (by decide) (backOf (W := 0) (own_rm1 l Z a0 hw [] (3001 : Int32) h0 n0 Z0 ) hZ (hw _ (List.mem_of_getElem? (i := 3) rfl)) (hw _ (List.mem_of_getElem? (i := 2) rfl)) (by decide) (by decide)) (g := (mkF m 30 #[.val (.int p0), .val (.int t14_0), .val (.int (own_f1_0 p0))] [(.int (3001 : Int32))])) rfl (by rw [hml]; rfl) (argsL := [(.int (3001 : Int32))]) (rest := []) (lenOf own_pd0 rfl) rfl (by show 2 * 0 + _ ≤ _; exact Nat.le_of_eq rfl) (hb hby at_30) (fun _ _ => ⟨rfl, e1, (by decide : 0 + 0 ≤ _), (by decide : 0 + 0 ≤ _)⟩)
      dsimp only [Pt.U, Pt.locs, Pt.cells, Pt.slots] at X2 l2 y2 z2 st2 hQ2
      subst l2 y2 z2
      obtain ⟨rfl, N2q, e2⟩ := hQ2
      have N2 := Fr.app N1 N2q
      refine Owe.step (T' := T2) (g' := (mkF m 33 #[.val (.int p0), .val (.int t14_0), .val (.int (own_f1_0 p0))] [(.int (own_f1_0 (3001 : Int32)))])) (fun t k => ?_) ?_
      · show Steps p.tables e below (T1.setTop (mkF m 27 #[.val (.int p0), .val (.int t14_0), .val (.int (own_f1_0 p0))] [])) t
        refine XS.sipush X1.here hx rfl (hb hby at_27) ?_
        show Steps p.tables e below (T1.setTop (mkF m 30 #[.val (.int p0), .val (.int t14_0), .val (.int (own_f1_0 p0))] [(.int (3001 : Int32))])) t
        refine st2 _ ?_
        show Steps p.tables e below (T2.setTop (mkF m 33 #[.val (.int p0), .val (.int t14_0), .val (.int (own_f1_0 p0))] [(.int (own_f1_0 (3001 : Int32)))])) t
        exact k
      by_cases hc33 : (own_f1_0 (3001 : Int32)) = (0 : Int32)
      · refine Owe.step (T' := T2) (g' := (mkF m 76 #[.val (.int p0), .val (.int t14_0), .val (.int (own_f1_0 p0))] [])) (fun t k => ?_) ?_
        · show Steps p.tables e below (T2.setTop (mkF m 33 #[.val (.int p0), .val (.int t14_0), .val (.int (own_f1_0 p0))] [(.int (own_f1_0 (3001 : Int32)))])) t
          refine XS.ifYes X2.here hx rfl (pc0 := 33) (pc' := 76) rfl (hb hby at_33) rfl ((if0 _ _).trans (teq hc33).1) (by decide) (by decide) ?_
          show Steps p.tables e below (T2.setTop (mkF m 76 #[.val (.int p0), .val (.int t14_0), .val (.int (own_f1_0 p0))] [])) t
          exact k
        rw [show own_f0_14 p0 t14_0 = (0 : Int32) from (by rw [own_f0_14, if_pos hc22, if_pos hc33])]
        refine Owe.ret X2 Bd.notSynchronized (v := (some (.int (0 : Int32)))) (fun h => by rw [Bd.returns] at h; cases h) (fun fs hr => ?_) ⟨rfl, N2⟩ (by decide) (by decide)
        show Steps p.tables e below (T2.setTop (mkF m 76 #[.val (.int p0), .val (.int t14_0), .val (.int (own_f1_0 p0))] [])) _
        refine XS.iconst X2.here hx rfl (hb hby at_76) ?_
        show Steps p.tables e below (T2.setTop (mkF m 77 #[.val (.int p0), .val (.int t14_0), .val (.int (own_f1_0 p0))] [(.int (0 : Int32))])) _
        exact retN X2 hx (t := .boolean) Bd.returns (by simp) (hb hby at_77) hr
      · refine Owe.step (T' := T2) (g' := (mkF m 36 #[.val (.int p0), .val (.int t14_0), .val (.int (own_f1_0 p0))] [])) (fun t k => ?_) ?_
        · show Steps p.tables e below (T2.setTop (mkF m 33 #[.val (.int p0), .val (.int t14_0), .val (.int (own_f1_0 p0))] [(.int (own_f1_0 (3001 : Int32)))])) t
          refine XS.ifNo X2.here hx rfl (hb hby at_33) rfl ((if0 _ _).trans (feq hc33).1) ?_
          show Steps p.tables e below (T2.setTop (mkF m 36 #[.val (.int p0), .val (.int t14_0), .val (.int (own_f1_0 p0))] [])) t
          exact k
        obtain ⟨_, _, ⟨T3, L3, k3, n3⟩, -, X3, ⟨Lc3, hQ3, l3, y3, z3⟩, st3⟩ := Jvm.LawKit.callS X2 hx (y := (⟨"com/example/tariffwise/tariffwise/diameter/ResultCode", "isProtocolError", "(I)Z"⟩ : MethodName)) hown (mvT hZ (hw _ (List.mem_of_getElem? (i := 0) rfl))) (mvT hZ (hw _ (List.mem_of_getElem? (i := 1) rfl))) (mvT hZ (hw _ (List.mem_of_getElem? (i := 2) rfl))) (mvT hZ (hw _ (List.mem_of_getElem? (i := 3) rfl))) (by decide) (backOf (W := 0) (own_rm1 l Z a0 hw [] (3007 : Int32) h0 n0 Z0 ) hZ (hw _ (List.mem_of_getElem? (i := 3) rfl)) (hw _ (List.mem_of_getElem? (i := 2) rfl)) (by decide) (by decide)) (g := (mkF m 39 #[.val (.int p0), .val (.int t14_0), .val (.int (own_f1_0 p0))] [(.int (3007 : Int32))])) rfl (by rw [hml]; rfl) (argsL := [(.int (3007 : Int32))]) (rest := []) (lenOf own_pd0 rfl) rfl (by show 2 * 0 + _ ≤ _; exact Nat.le_of_eq rfl) (hb hby at_39) (fun _ _ => ⟨rfl, e2, (by decide : 0 + 0 ≤ _), (by decide : 0 + 0 ≤ _)⟩)
        dsimp only [Pt.U, Pt.locs, Pt.cells, Pt.slots] at X3 l3 y3 z3 st3 hQ3
        subst l3 y3 z3
        obtain ⟨rfl, N3q, e3⟩ := hQ3
        have N3 := Fr.app N2 N3q
        refine Owe.step (T' := T3) (g' := (mkF m 42 #[.val (.int p0), .val (.int t14_0), .val (.int (own_f1_0 p0))] [(.int (own_f1_0 (3007 : Int32)))])) (fun t k => ?_) ?_
        · show Steps p.tables e below (T2.setTop (mkF m 36 #[.val (.int p0), .val (.int t14_0), .val (.int (own_f1_0 p0))] [])) t
          refine XS.sipush X2.here hx rfl (hb hby at_36) ?_
          show Steps p.tables e below (T2.setTop (mkF m 39 #[.val (.int p0), .val (.int t14_0), .val (.int (own_f1_0 p0))] [(.int (3007 : Int32))])) t
          refine st3 _ ?_
          show Steps p.tables e below (T3.setTop (mkF m 42 #[.val (.int p0), .val (.int t14_0), .val (.int (own_f1_0 p0))] [(.int (own_f1_0 (3007 : Int32)))])) t
          exact k
        by_cases hc42 : (own_f1_0 (3007 : Int32)) = (0 : Int32)
        · refine Owe.step (T' := T3) (g' := (mkF m 76 #[.val (.int p0), .val (.int t14_0), .val (.int (own_f1_0 p0))] [])) (fun t k => ?_) ?_
          · show Steps p.tables e below (T3.setTop (mkF m 42 #[.val (.int p0), .val (.int t14_0), .val (.int (own_f1_0 p0))] [(.int (own_f1_0 (3007 : Int32)))])) t
            refine XS.ifYes X3.here hx rfl (pc0 := 42) (pc' := 76) rfl (hb hby at_42) rfl ((if0 _ _).trans (teq hc42).1) (by decide) (by decide) ?_
            show Steps p.tables e below (T3.setTop (mkF m 76 #[.val (.int p0), .val (.int t14_0), .val (.int (own_f1_0 p0))] [])) t
            exact k
          rw [show own_f0_14 p0 t14_0 = (0 : Int32) from (by rw [own_f0_14, if_pos hc22, if_neg hc33, if_pos hc42])]
          refine Owe.ret X3 Bd.notSynchronized (v := (some (.int (0 : Int32)))) (fun h => by rw [Bd.returns] at h; cases h) (fun fs hr => ?_) ⟨rfl, N3⟩ (by decide) (by decide)
          show Steps p.tables e below (T3.setTop (mkF m 76 #[.val (.int p0), .val (.int t14_0), .val (.int (own_f1_0 p0))] [])) _
          refine XS.iconst X3.here hx rfl (hb hby at_76) ?_
          show Steps p.tables e below (T3.setTop (mkF m 77 #[.val (.int p0), .val (.int t14_0), .val (.int (own_f1_0 p0))] [(.int (0 : Int32))])) _
          exact retN X3 hx (t := .boolean) Bd.returns (by simp) (hb hby at_77) hr
        · refine Owe.step (T' := T3) (g' := (mkF m 45 #[.val (.int p0), .val (.int t14_0), .val (.int (own_f1_0 p0))] [])) (fun t k => ?_) ?_
          · show Steps p.tables e below (T3.setTop (mkF m 42 #[.val (.int p0), .val (.int t14_0), .val (.int (own_f1_0 p0))] [(.int (own_f1_0 (3007 : Int32)))])) t
            refine XS.ifNo X3.here hx rfl (hb hby at_42) rfl ((if0 _ _).trans (feq hc42).1) ?_
            show Steps p.tables e below (T3.setTop (mkF m 45 #[.val (.int p0), .val (.int t14_0), .val (.int (own_f1_0 p0))] [])) t
            exact k
          obtain ⟨_, _, ⟨T4, L4, k4, n4⟩, -, X4, ⟨Lc4, hQ4, l4, y4, z4⟩, st4⟩ := Jvm.LawKit.callS X3 hx (y := (⟨"com/example/tariffwise/tariffwise/diameter/ResultCode", "isProtocolError", "(I)Z"⟩ : MethodName)) hown (mvT hZ (hw _ (List.mem_of_getElem? (i := 0) rfl))) (mvT hZ (hw _ (List.mem_of_getElem? (i := 1) rfl))) (mvT hZ (hw _ (List.mem_of_getElem? (i := 2) rfl))) (mvT hZ (hw _ (List.mem_of_getElem? (i := 3) rfl))) (by decide) (backOf (W := 0) (own_rm1 l Z a0 hw [] (2001 : Int32) h0 n0 Z0 ) hZ (hw _ (List.mem_of_getElem? (i := 3) rfl)) (hw _ (List.mem_of_getElem? (i := 2) rfl)) (by decide) (by decide)) (g := (mkF m 48 #[.val (.int p0), .val (.int t14_0), .val (.int (own_f1_0 p0))] [(.int (2001 : Int32))])) rfl (by rw [hml]; rfl) (argsL := [(.int (2001 : Int32))]) (rest := []) (lenOf own_pd0 rfl) rfl (by show 2 * 0 + _ ≤ _; exact Nat.le_of_eq rfl) (hb hby at_48) (fun _ _ => ⟨rfl, e3, (by decide : 0 + 0 ≤ _), (by decide : 0 + 0 ≤ _)⟩)
          dsimp only [Pt.U, Pt.locs, Pt.cells, Pt.slots] at X4 l4 y4 z4 st4 hQ4
          subst l4 y4 z4
          obtain ⟨rfl, N4q, e4⟩ := hQ4
          have N4 := Fr.app N3 N4q
          refine Owe.step (T' := T4) (g' := (mkF m 51 #[.val (.int p0), .val (.int t14_0), .val (.int (own_f1_0 p0))] [(.int (own_f1_0 (2001 : Int32)))])) (fun t k => ?_) ?_
          · show Steps p.tables e below (T3.setTop (mkF m 45 #[.val (.int p0), .val (.int t14_0), .val (.int (own_f1_0 p0))] [])) t
            refine XS.sipush X3.here hx rfl (hb hby at_45) ?_
            show Steps p.tables e below (T3.setTop (mkF m 48 #[.val (.int p0), .val (.int t14_0), .val (.int (own_f1_0 p0))] [(.int (2001 : Int32))])) t
            refine st4 _ ?_
            show Steps p.tables e below (T4.setTop (mkF m 51 #[.val (.int p0), .val (.int t14_0), .val (.int (own_f1_0 p0))] [(.int (own_f1_0 (2001 : Int32)))])) t
            exact k
          by_cases hc51 : (own_f1_0 (2001 : Int32)) = (0 : Int32)
          · refine Owe.step (T' := T4) (g' := (mkF m 54 #[.val (.int p0), .val (.int t14_0), .val (.int (own_f1_0 p0))] [])) (fun t k => ?_) ?_
            · show Steps p.tables e below (T4.setTop (mkF m 51 #[.val (.int p0), .val (.int t14_0), .val (.int (own_f1_0 p0))] [(.int (own_f1_0 (2001 : Int32)))])) t
              refine XS.ifNo X4.here hx rfl (hb hby at_51) rfl ((if0 _ _).trans (teq hc51).2) ?_
              show Steps p.tables e below (T4.setTop (mkF m 54 #[.val (.int p0), .val (.int t14_0), .val (.int (own_f1_0 p0))] [])) t
              exact k
            obtain ⟨_, _, ⟨T5, L5, k5, n5⟩, -, X5, ⟨Lc5, hQ5, l5, y5, z5⟩, st5⟩ := Jvm.LawKit.callS X4 hx (y := (⟨"com/example/tariffwise/tariffwise/diameter/ResultCode", "isProtocolError", "(I)Z"⟩ : MethodName)) hown (mvT hZ (hw _ (List.mem_of_getElem? (i := 0) rfl))) (mvT hZ (hw _ (List.mem_of_getElem? (i := 1) rfl))) (mvT hZ (hw _ (List.mem_of_getElem? (i := 2) rfl))) (mvT hZ (hw _ (List.mem_of_getElem? (i := 3) rfl))) (by decide) (backOf (W := 0) (own_rm1 l Z a0 hw [] (4012 : Int32) h0 n0 Z0 ) hZ (hw _ (List.mem_of_getElem? (i := 3) rfl)) (hw _ (List.mem_of_getElem? (i := 2) rfl)) (by decide) (by decide)) (g := (mkF m 57 #[.val (.int p0), .val (.int t14_0), .val (.int (own_f1_0 p0))] [(.int (4012 : Int32))])) rfl (by rw [hml]; rfl) (argsL := [(.int (4012 : Int32))]) (rest := []) (lenOf own_pd0 rfl) rfl (by show 2 * 0 + _ ≤ _; exact Nat.le_of_eq rfl) (hb hby at_57) (fun _ _ => ⟨rfl, e4, (by decide : 0 + 0 ≤ _), (by decide : 0 + 0 ≤ _)⟩)
            dsimp only [Pt.U, Pt.locs, Pt.cells, Pt.slots] at X5 l5 y5 z5 st5 hQ5
            subst l5 y5 z5
            obtain ⟨rfl, N5q, e5⟩ := hQ5
            have N5 := Fr.app N4 N5q
            refine Owe.step (T' := T5) (g' := (mkF m 60 #[.val (.int p0), .val (.int t14_0), .val (.int (own_f1_0 p0))] [(.int (own_f1_0 (4012 : Int32)))])) (fun t k => ?_) ?_
            · show Steps p.tables e below (T4.setTop (mkF m 54 #[.val (.int p0), .val (.int t14_0), .val (.int (own_f1_0 p0))] [])) t
              refine XS.sipush X4.here hx rfl (hb hby at_54) ?_
              show Steps p.tables e below (T4.setTop (mkF m 57 #[.val (.int p0), .val (.int t14_0), .val (.int (own_f1_0 p0))] [(.int (4012 : Int32))])) t
              refine st5 _ ?_
              show Steps p.tables e below (T5.setTop (mkF m 60 #[.val (.int p0), .val (.int t14_0), .val (.int (own_f1_0 p0))] [(.int (own_f1_0 (4012 : Int32)))])) t
              exact k
            by_cases hc60 : (own_f1_0 (4012 : Int32)) = (0 : Int32)
            · refine Owe.step (T' := T5) (g' := (mkF m 63 #[.val (.int p0), .val (.int t14_0), .val (.int (own_f1_0 p0))] [])) (fun t k => ?_) ?_
              · show Steps p.tables e below (T5.setTop (mkF m 60 #[.val (.int p0), .val (.int t14_0), .val (.int (own_f1_0 p0))] [(.int (own_f1_0 (4012 : Int32)))])) t
                refine XS.ifNo X5.here hx rfl (hb hby at_60) rfl ((if0 _ _).trans (teq hc60).2) ?_
                show Steps p.tables e below (T5.setTop (mkF m 63 #[.val (.int p0), .val (.int t14_0), .val (.int (own_f1_0 p0))] [])) t
                exact k
              obtain ⟨_, _, ⟨T6, L6, k6, n6⟩, -, X6, ⟨Lc6, hQ6, l6, y6, z6⟩, st6⟩ := Jvm.LawKit.callS X5 hx (y := (⟨"com/example/tariffwise/tariffwise/diameter/ResultCode", "isProtocolError", "(I)Z"⟩ : MethodName)) hown (mvT hZ (hw _ (List.mem_of_getElem? (i := 0) rfl))) (mvT hZ (hw _ (List.mem_of_getElem? (i := 1) rfl))) (mvT hZ (hw _ (List.mem_of_getElem? (i := 2) rfl))) (mvT hZ (hw _ (List.mem_of_getElem? (i := 3) rfl))) (by decide) (backOf (W := 0) (own_rm1 l Z a0 hw [] (5012 : Int32) h0 n0 Z0 ) hZ (hw _ (List.mem_of_getElem? (i := 3) rfl)) (hw _ (List.mem_of_getElem? (i := 2) rfl)) (by decide) (by decide)) (g := (mkF m 66 #[.val (.int p0), .val (.int t14_0), .val (.int (own_f1_0 p0))] [(.int (5012 : Int32))])) rfl (by rw [hml]; rfl) (argsL := [(.int (5012 : Int32))]) (rest := []) (lenOf own_pd0 rfl) rfl (by show 2 * 0 + _ ≤ _; exact Nat.le_of_eq rfl) (hb hby at_66) (fun _ _ => ⟨rfl, e5, (by decide : 0 + 0 ≤ _), (by decide : 0 + 0 ≤ _)⟩)
              dsimp only [Pt.U, Pt.locs, Pt.cells, Pt.slots] at X6 l6 y6 z6 st6 hQ6
              subst l6 y6 z6
              obtain ⟨rfl, N6q, e6⟩ := hQ6
              have N6 := Fr.app N5 N6q
              refine Owe.step (T' := T6) (g' := (mkF m 69 #[.val (.int p0), .val (.int t14_0), .val (.int (own_f1_0 p0))] [(.int (own_f1_0 (5012 : Int32)))])) (fun t k => ?_) ?_
              · show Steps p.tables e below (T5.setTop (mkF m 63 #[.val (.int p0), .val (.int t14_0), .val (.int (own_f1_0 p0))] [])) t
                refine XS.sipush X5.here hx rfl (hb hby at_63) ?_
                show Steps p.tables e below (T5.setTop (mkF m 66 #[.val (.int p0), .val (.int t14_0), .val (.int (own_f1_0 p0))] [(.int (5012 : Int32))])) t
                refine st6 _ ?_
                show Steps p.tables e below (T6.setTop (mkF m 69 #[.val (.int p0), .val (.int t14_0), .val (.int (own_f1_0 p0))] [(.int (own_f1_0 (5012 : Int32)))])) t
                exact k
              by_cases hc69 : (own_f1_0 (5012 : Int32)) = (0 : Int32)
              · refine Owe.step (T' := T6) (g' := (mkF m 72 #[.val (.int p0), .val (.int t14_0), .val (.int (own_f1_0 p0))] [])) (fun t k => ?_) ?_
                · show Steps p.tables e below (T6.setTop (mkF m 69 #[.val (.int p0), .val (.int t14_0), .val (.int (own_f1_0 p0))] [(.int (own_f1_0 (5012 : Int32)))])) t
                  refine XS.ifNo X6.here hx rfl (hb hby at_69) rfl ((if0 _ _).trans (teq hc69).2) ?_
                  show Steps p.tables e below (T6.setTop (mkF m 72 #[.val (.int p0), .val (.int t14_0), .val (.int (own_f1_0 p0))] [])) t
                  exact k
                rw [show own_f0_14 p0 t14_0 = (1 : Int32) from (by rw [own_f0_14, if_pos hc22, if_neg hc33, if_neg hc42, if_pos hc51, if_pos hc60, if_pos hc69])]
                refine Owe.ret X6 Bd.notSynchronized (v := (some (.int (1 : Int32)))) (fun h => by rw [Bd.returns] at h; cases h) (fun fs hr => ?_) ⟨rfl, N6⟩ (by decide) (by decide)
                show Steps p.tables e below (T6.setTop (mkF m 72 #[.val (.int p0), .val (.int t14_0), .val (.int (own_f1_0 p0))] [])) _
                refine XS.iconst X6.here hx rfl (hb hby at_72) ?_
                show Steps p.tables e below (T6.setTop (mkF m 73 #[.val (.int p0), .val (.int t14_0), .val (.int (own_f1_0 p0))] [(.int (1 : Int32))])) _
                refine XS.goto X6.here hx rfl (pc0 := 73) (pc' := 77) rfl (hb hby at_73) (by decide) (by decide) ?_
                show Steps p.tables e below (T6.setTop (mkF m 77 #[.val (.int p0), .val (.int t14_0), .val (.int (own_f1_0 p0))] [(.int (1 : Int32))])) _
                exact retN X6 hx (t := .boolean) Bd.returns (by simp) (hb hby at_77) hr
              · refine Owe.step (T' := T6) (g' := (mkF m 76 #[.val (.int p0), .val (.int t14_0), .val (.int (own_f1_0 p0))] [])) (fun t k => ?_) ?_
                · show Steps p.tables e below (T6.setTop (mkF m 69 #[.val (.int p0), .val (.int t14_0), .val (.int (own_f1_0 p0))] [(.int (own_f1_0 (5012 : Int32)))])) t
                  refine XS.ifYes X6.here hx rfl (pc0 := 69) (pc' := 76) rfl (hb hby at_69) rfl ((if0 _ _).trans (feq hc69).2) (by decide) (by decide) ?_
                  show Steps p.tables e below (T6.setTop (mkF m 76 #[.val (.int p0), .val (.int t14_0), .val (.int (own_f1_0 p0))] [])) t
                  exact k
                rw [show own_f0_14 p0 t14_0 = (0 : Int32) from (by rw [own_f0_14, if_pos hc22, if_neg hc33, if_neg hc42, if_pos hc51, if_pos hc60, if_neg hc69])]
                refine Owe.ret X6 Bd.notSynchronized (v := (some (.int (0 : Int32)))) (fun h => by rw [Bd.returns] at h; cases h) (fun fs hr => ?_) ⟨rfl, N6⟩ (by decide) (by decide)
                show Steps p.tables e below (T6.setTop (mkF m 76 #[.val (.int p0), .val (.int t14_0), .val (.int (own_f1_0 p0))] [])) _
                refine XS.iconst X6.here hx rfl (hb hby at_76) ?_
                show Steps p.tables e below (T6.setTop (mkF m 77 #[.val (.int p0), .val (.int t14_0), .val (.int (own_f1_0 p0))] [(.int (0 : Int32))])) _
                exact retN X6 hx (t := .boolean) Bd.returns (by simp) (hb hby at_77) hr
            · refine Owe.step (T' := T5) (g' := (mkF m 76 #[.val (.int p0), .val (.int t14_0), .val (.int (own_f1_0 p0))] [])) (fun t k => ?_) ?_
              · show Steps p.tables e below (T5.setTop (mkF m 60 #[.val (.int p0), .val (.int t14_0), .val (.int (own_f1_0 p0))] [(.int (own_f1_0 (4012 : Int32)))])) t
                refine XS.ifYes X5.here hx rfl (pc0 := 60) (pc' := 76) rfl (hb hby at_60) rfl ((if0 _ _).trans (feq hc60).2) (by decide) (by decide) ?_
                show Steps p.tables e below (T5.setTop (mkF m 76 #[.val (.int p0), .val (.int t14_0), .val (.int (own_f1_0 p0))] [])) t
                exact k
              rw [show own_f0_14 p0 t14_0 = (0 : Int32) from (by rw [own_f0_14, if_pos hc22, if_neg hc33, if_neg hc42, if_pos hc51, if_neg hc60])]
              refine Owe.ret X5 Bd.notSynchronized (v := (some (.int (0 : Int32)))) (fun h => by rw [Bd.returns] at h; cases h) (fun fs hr => ?_) ⟨rfl, N5⟩ (by decide) (by decide)
              show Steps p.tables e below (T5.setTop (mkF m 76 #[.val (.int p0), .val (.int t14_0), .val (.int (own_f1_0 p0))] [])) _
              refine XS.iconst X5.here hx rfl (hb hby at_76) ?_
              show Steps p.tables e below (T5.setTop (mkF m 77 #[.val (.int p0), .val (.int t14_0), .val (.int (own_f1_0 p0))] [(.int (0 : Int32))])) _
              exact retN X5 hx (t := .boolean) Bd.returns (by simp) (hb hby at_77) hr
          · refine Owe.step (T' := T4) (g' := (mkF m 76 #[.val (.int p0), .val (.int t14_0), .val (.int (own_f1_0 p0))] [])) (fun t k => ?_) ?_
            · show Steps p.tables e below (T4.setTop (mkF m 51 #[.val (.int p0), .val (.int t14_0), .val (.int (own_f1_0 p0))] [(.int (own_f1_0 (2001 : Int32)))])) t
              refine XS.ifYes X4.here hx rfl (pc0 := 51) (pc' := 76) rfl (hb hby at_51) rfl ((if0 _ _).trans (feq hc51).2) (by decide) (by decide) ?_
              show Steps p.tables e below (T4.setTop (mkF m 76 #[.val (.int p0), .val (.int t14_0), .val (.int (own_f1_0 p0))] [])) t
              exact k
            rw [show own_f0_14 p0 t14_0 = (0 : Int32) from (by rw [own_f0_14, if_pos hc22, if_neg hc33, if_neg hc42, if_neg hc51])]
            refine Owe.ret X4 Bd.notSynchronized (v := (some (.int (0 : Int32)))) (fun h => by rw [Bd.returns] at h; cases h) (fun fs hr => ?_) ⟨rfl, N4⟩ (by decide) (by decide)
            show Steps p.tables e below (T4.setTop (mkF m 76 #[.val (.int p0), .val (.int t14_0), .val (.int (own_f1_0 p0))] [])) _
            refine XS.iconst X4.here hx rfl (hb hby at_76) ?_
            show Steps p.tables e below (T4.setTop (mkF m 77 #[.val (.int p0), .val (.int t14_0), .val (.int (own_f1_0 p0))] [(.int (0 : Int32))])) _
            exact retN X4 hx (t := .boolean) Bd.returns (by simp) (hb hby at_77) hr
    · refine Owe.step (T' := T1) (g' := (mkF m 25 #[.val (.int p0), .val (.int t14_0), .val (.int (own_f1_0 p0))] [])) (fun t k => ?_) ?_
      · show Steps p.tables e below (T1.setTop (mkF m 22 #[.val (.int p0), .val (.int t14_0), .val (.int (own_f1_0 p0))] [(.int t14_0), (.int (own_f1_0 p0))])) t
        refine XS.icmpNo X1.here hx rfl (hb hby at_22) rfl (feq hc22).1 ?_
        show Steps p.tables e below (T1.setTop (mkF m 25 #[.val (.int p0), .val (.int t14_0), .val (.int (own_f1_0 p0))] [])) t
        exact k
      rw [show own_f0_14 p0 t14_0 = (0 : Int32) from (by rw [own_f0_14, if_neg hc22])]
      refine Owe.ret X1 Bd.notSynchronized (v := (some (.int (0 : Int32)))) (fun h => by rw [Bd.returns] at h; cases h) (fun fs hr => ?_) ⟨rfl, N1⟩ (by decide) (by decide)
      show Steps p.tables e below (T1.setTop (mkF m 25 #[.val (.int p0), .val (.int t14_0), .val (.int (own_f1_0 p0))] [])) _
      refine XS.iconst X1.here hx rfl (hb hby at_25) ?_
      show Steps p.tables e below (T1.setTop (mkF m 26 #[.val (.int p0), .val (.int t14_0), .val (.int (own_f1_0 p0))] [(.int (0 : Int32))])) _
      exact retN X1 hx (t := .boolean) Bd.returns (by simp) (hb hby at_26) hr
  by_cases hc6 : (p0 / (1000 : Int32)) = (3 : Int32)
  · refine Owe.step (T' := s₁) (g' := (mkF m 9 #[.val (.int p0), .unset, .unset] [])) (fun t k => ?_) ?_
    · show Steps p.tables e below (s₁.setTop (mkF m 6 #[.val (.int p0), .unset, .unset] [(.int (3 : Int32)), (.int (p0 / (1000 : Int32)))])) t
      refine XS.icmpNo X0.here hx rfl (hb hby at_6) rfl (teq hc6).2 ?_
      show Steps p.tables e below (s₁.setTop (mkF m 9 #[.val (.int p0), .unset, .unset] [])) t
      exact k
    refine Owe.step (T' := s₁) (g' := (mkF m 14 #[.val (.int p0), .unset, .unset] [(.int (1 : Int32))])) (fun t k => ?_) ?_
    · show Steps p.tables e below (s₁.setTop (mkF m 9 #[.val (.int p0), .unset, .unset] [])) t
      refine XS.iconst X0.here hx rfl (hb hby at_9) ?_
      show Steps p.tables e below (s₁.setTop (mkF m 10 #[.val (.int p0), .unset, .unset] [(.int (1 : Int32))])) t
      refine XS.goto X0.here hx rfl (pc0 := 10) (pc' := 14) rfl (hb hby at_10) (by decide) (by decide) ?_
      show Steps p.tables e below (s₁.setTop (mkF m 14 #[.val (.int p0), .unset, .unset] [(.int (1 : Int32))])) t
      exact k
    refine Owe.cast (show (own_f0_14 p0 (1 : Int32)) = (1 : Int32) from (show own_f0_0 p0 = (own_f0_14 p0 (1 : Int32)) from (by rw [own_f0_0, if_pos hc6])).symm.trans (own_law p0 )) ?_
    exact j14 s₁ _ X0 e0 N0 (1 : Int32)
  · refine Owe.step (T' := s₁) (g' := (mkF m 13 #[.val (.int p0), .unset, .unset] [])) (fun t k => ?_) ?_
    · show Steps p.tables e below (s₁.setTop (mkF m 6 #[.val (.int p0), .unset, .unset] [(.int (3 : Int32)), (.int (p0 / (1000 : Int32)))])) t
      refine XS.icmpYes X0.here hx rfl (pc0 := 6) (pc' := 13) rfl (hb hby at_6) rfl (feq hc6).2 (by decide) (by decide) ?_
      show Steps p.tables e below (s₁.setTop (mkF m 13 #[.val (.int p0), .unset, .unset] [])) t
      exact k
    refine Owe.step (T' := s₁) (g' := (mkF m 14 #[.val (.int p0), .unset, .unset] [(.int (0 : Int32))])) (fun t k => ?_) ?_
    · show Steps p.tables e below (s₁.setTop (mkF m 13 #[.val (.int p0), .unset, .unset] [])) t
      refine XS.iconst X0.here hx rfl (hb hby at_13) ?_
      show Steps p.tables e below (s₁.setTop (mkF m 14 #[.val (.int p0), .unset, .unset] [(.int (0 : Int32))])) t
      exact k
    refine Owe.cast (show (own_f0_14 p0 (0 : Int32)) = (1 : Int32) from (show own_f0_0 p0 = (own_f0_14 p0 (0 : Int32)) from (by rw [own_f0_0, if_neg hc6])).symm.trans (own_law p0 )) ?_
    exact j14 s₁ _ X0 e0 N0 (0 : Int32)
set_option maxRecDepth 65536 in
set_option maxHeartbeats 40000000 in
theorem comes_1 {Post : Tables → Env → Array Value → State → Outcome → State → Prop} (hpost : ∀ tb e args s v u, (limb_1_1.after args s (.returned v) u = true ∧ limb_1_2.after args s (.returned v) u = true ∧ True) → FrameEnd s (.returned v) u (Jvm.fieldLocs frame_1_writes args s ++ Jvm.arrayLocs frame_1_arrays args s ++ Jvm.staticLocs frame_1_statics s) 0 0 → Post tb e args s (.returned v) u) :
    ArmFor flags0 classFile x code maxLocals ret World_1 tables_1 room_1 Calls_1 rest_1 Pre_1 Post := by
  intro l hfl _ _ p e ha hc hk s m args below hf hA hF happ hP
  obtain ⟨hcalls, hrest, hpre⟩ := hP
  obtain ⟨-, -, -, hnamed, -, -, -, hat⟩ := (Spec.applies_iff hf).mp happ
  obtain ⟨hg, hn⟩ := and_e (Cond.before_iff.mp (show (Jvm.Cond.and given_1 narrow_1).before args s = true from hpre))
  obtain ⟨ga1, gb1⟩ := and_e hg
  obtain ⟨w0, rfl⟩ : ∃ w0 : Value, args = #[w0] := by
    have hs : args.size = 1 := by simpa [Cond.value, given_1] using ga1
    obtain ⟨L⟩ := args
    match L, hs with
    | [w0], _ => exact ⟨w0, rfl⟩
  have hw := fun d (hd : d ∈ tables_1) => atoms_spec (ws := Jvm.Cond.code x code maxLocals ret :: tables_1) hat d (List.mem_cons_of_mem _ hd)
  obtain ⟨i0, ei0⟩ := is_v gb1
  obtain rfl : w0 = (.int i0) := Option.some.inj ei0
  obtain ⟨n, o, h1, h2, h3, _, L, rfl, ⟨rfl, N⟩, hq⟩ := own_rm0 l s _ hw tables_1 i0 s.heap s.heap.size (Nat.le_refl _) p e ha hc hk s m _ below hf ((Spec.applies_iff_loose hf).mp happ).1 ⟨rfl, State.Warmed39.refl s, rfl⟩ trivial
  refine ⟨n, _, h1, h2, h3, hpost _ _ _ _ _ _ ⟨Cond.after_iff.mpr rfl, Cond.after_iff.mpr (eq_i res_at (Term.int_eval (1)) rfl), trivial⟩ ⟨hq.1, hq.2.1, (hq.2.2.sift fun y hy => Or.inr (N y hy)).mono (by decide) (by decide)⟩⟩
theorem main_1_1 : Claimed_1_1 := comes_1 fun _ _ _ _ _ _ h hF => ⟨h.1, hF⟩
theorem main_1_2 : Claimed_1_2 := comes_1 fun _ _ _ _ _ _ h hF => ⟨h.2.1, hF⟩
end Jvm.Pilot.@@N@@
namespace Jvm.Pilot.@@N@@
open Jvm Jvm.ClassFile Sem Op Lib Jvm.Free Jvm.Stand Jvm.Pilot.@@N@@.Jvm.D
/-! MADE BY PROGRAM (witnessworld.py) out of the Statement's table words and the real class files: 9 classes; the members and pool entries that the words name. The judged class is class 1, her method 1. -/
namespace start1
open Jvm.ClassFile
def u (s : String) : CpInfo := .utf8 (stringToUtf16 s)
/-- a pool by its gaps: so many unusable entries, then the entry; so many at the end -/
def gap : Nat → List CpInfo → List CpInfo
  | 0, r => r
  | n + 1, r => .unusable :: gap n r
def poolList (es : List (Nat × CpInfo)) (last : Nat) : List CpInfo := es.foldr (fun e r => gap e.1 (e.2 :: r)) (gap last [])
def pool (es : List (Nat × CpInfo)) (last : Nat) : Array CpInfo := ⟨poolList es last⟩
def fileOf (pool : Array CpInfo) (this : Nat) (attrs : Array Attribute := #[]) (ms : Array MethodInfo := #[]) (fl : Nat := 33) (sup : Nat := 0) (ifs : Array Nat := #[]) (fds : Array FieldInfo := #[]) : ClassFile where
  minorVersion := 0
  majorVersion := 65
  constantPool := pool
  accessFlags := fl
  thisClass := this
  superClass := sup
  interfaces := ifs
  fields := fds
  methods := ms
  attributes := attrs
def plain (name : String) (sup : Option ClassId) : Class where
  name := name
  kind := .ordinary
  loader := none
  accessFlags := 33
  super := sup
  interfaces := #[]
  cf := none
  fields := #[]
  methods := #[]
  instanceTypes := #[]
  staticTypes := #[]
  resolved := #[]
  callSites := []
  init := .initialized
  statics := none
  mirror := none

def pool0 : Array CpInfo := pool [(5, u "<init>"), (0, u "()V"), (1, .class_ 10), (1, u "java/lang/Object")] 113

def k0m0 : Method := { name := "<init>", desc := "()V", sig := { parameters := [], returnType := none }, accessFlags := 1, code := none }
/-- java/lang/Object -/
def k0 : Class := { plain "java/lang/Object" none with
  accessFlags := 33
  interfaces := #[]
  cf := some (fileOf pool0 8 #[] #[{ accessFlags := 1, nameIndex := 5, descriptorIndex := 6, attributes := #[] }] 33 0 #[] #[])
  fields := #[]
  methods := #[k0m0]
  instanceTypes := #[]
  staticTypes := #[]
  resolved := Array.replicate 124 none
  statics := none }

def pool1 : Array CpInfo := pool [(2, .class_ 4), (1, u "java/lang/Object"), (0, u "<init>"), (0, u "()V"), (0, .methodref 8 9), (0, .class_ 10), (0, .nameAndType 11 12), (0, u "com/example/tariffwise/tariffwise/diameter/ResultCode"), (0, u "isProtocolError"), (0, u "(I)Z"), (0, .class_ 14), (0, u "com/example/tariffwise/tariffwise/diameter/ResultCodeIsProtocolErrorPinLaw"), (2, u "law")] 3

def k1m0 : Method := { name := "<init>", desc := "()V", sig := { parameters := [], returnType := none }, accessFlags := 2, code := none }
def k1c1 : Code := { maxStack := 2, maxLocals := 3, code := code, exceptionTable := #[], attributes := #[] }
def k1m1 : Method := { name := "law", desc := "(I)Z", sig := { parameters := [.int], returnType := some .boolean }, accessFlags := 9, code := some k1c1 }
/-- com/example/tariffwise/tariffwise/diameter/ResultCodeIsProtocolErrorPinLaw -/
def k1 : Class := { plain "com/example/tariffwise/tariffwise/diameter/ResultCodeIsProtocolErrorPinLaw" (some 0) with
  accessFlags := 49
  interfaces := #[]
  cf := some (fileOf pool1 13 #[] #[{ accessFlags := 2, nameIndex := 5, descriptorIndex := 6, attributes := #[] }, { accessFlags := 9, nameIndex := 17, descriptorIndex := 12, attributes := #[] }] 49 2 #[] #[])
  fields := #[]
  methods := #[k1m0, k1m1]
  instanceTypes := #[]
  staticTypes := #[]
  resolved := Array.replicate 21 none
  statics := none }

def pool2 : Array CpInfo := pool [(2, .class_ 4), (1, u "java/lang/Object"), (0, u "<init>"), (0, u "()V"), (0, .class_ 8), (0, u "com/example/tariffwise/tariffwise/diameter/ResultCode"), (0, u "SUCCESS"), (0, u "I"), (2, u "COMMAND_UNSUPPORTED"), (1, u "APPLICATION_UNSUPPORTED"), (1, u "CREDIT_LIMIT_REACHED"), (1, u "AVP_UNSUPPORTED"), (1, u "INVALID_AVP_VALUE"), (1, u "MISSING_AVP"), (1, u "NO_COMMON_APPLICATION"), (1, u "UNSUPPORTED_VERSION"), (1, u "UNABLE_TO_COMPLY"), (1, u "INVALID_AVP_LENGTH"), (1, u "INVALID_MESSAGE_LENGTH"), (1, u "USER_UNKNOWN"), (1, u "RATING_FAILED"), (3, u "isProtocolError"), (0, u "(I)Z")] 3

def k2m0 : Method := { name := "<init>", desc := "()V", sig := { parameters := [], returnType := none }, accessFlags := 2, code := none }
def k2c1 : Code := { maxStack := 2, maxLocals := 1, code := prog_22_method_2_code, exceptionTable := #[], attributes := #[] }
def k2m1 : Method := { name := "isProtocolError", desc := "(I)Z", sig := { parameters := [.int], returnType := some .boolean }, accessFlags := 9, code := some k2c1 }
/-- com/example/tariffwise/tariffwise/diameter/ResultCode -/
def k2 : Class := { plain "com/example/tariffwise/tariffwise/diameter/ResultCode" (some 0) with
  accessFlags := 49
  interfaces := #[]
  cf := some (fileOf pool2 7 #[] #[{ accessFlags := 2, nameIndex := 5, descriptorIndex := 6, attributes := #[] }, { accessFlags := 9, nameIndex := 41, descriptorIndex := 42, attributes := #[] }] 49 2 #[] #[{ accessFlags := 25, nameIndex := 9, descriptorIndex := 10, attributes := #[] }, { accessFlags := 25, nameIndex := 13, descriptorIndex := 10, attributes := #[] }, { accessFlags := 25, nameIndex := 15, descriptorIndex := 10, attributes := #[] }, { accessFlags := 25, nameIndex := 17, descriptorIndex := 10, attributes := #[] }, { accessFlags := 25, nameIndex := 19, descriptorIndex := 10, attributes := #[] }, { accessFlags := 25, nameIndex := 21, descriptorIndex := 10, attributes := #[] }, { accessFlags := 25, nameIndex := 23, descriptorIndex := 10, attributes := #[] }, { accessFlags := 25, nameIndex := 25, descriptorIndex := 10, attributes := #[] }, { accessFlags := 25, nameIndex := 27, descriptorIndex := 10, attributes := #[] }, { accessFlags := 25, nameIndex := 29, descriptorIndex := 10, attributes := #[] }, { accessFlags := 25, nameIndex := 31, descriptorIndex := 10, attributes := #[] }, { accessFlags := 25, nameIndex := 33, descriptorIndex := 10, attributes := #[] }, { accessFlags := 25, nameIndex := 35, descriptorIndex := 10, attributes := #[] }, { accessFlags := 25, nameIndex := 37, descriptorIndex := 10, attributes := #[] }])
  fields := #[{ name := "SUCCESS", type := .int, accessFlags := 25, slot := 0, constantValue := 0 }, { name := "COMMAND_UNSUPPORTED", type := .int, accessFlags := 25, slot := 1, constantValue := 0 }, { name := "APPLICATION_UNSUPPORTED", type := .int, accessFlags := 25, slot := 2, constantValue := 0 }, { name := "CREDIT_LIMIT_REACHED", type := .int, accessFlags := 25, slot := 3, constantValue := 0 }, { name := "AVP_UNSUPPORTED", type := .int, accessFlags := 25, slot := 4, constantValue := 0 }, { name := "INVALID_AVP_VALUE", type := .int, accessFlags := 25, slot := 5, constantValue := 0 }, { name := "MISSING_AVP", type := .int, accessFlags := 25, slot := 6, constantValue := 0 }, { name := "NO_COMMON_APPLICATION", type := .int, accessFlags := 25, slot := 7, constantValue := 0 }, { name := "UNSUPPORTED_VERSION", type := .int, accessFlags := 25, slot := 8, constantValue := 0 }, { name := "UNABLE_TO_COMPLY", type := .int, accessFlags := 25, slot := 9, constantValue := 0 }, { name := "INVALID_AVP_LENGTH", type := .int, accessFlags := 25, slot := 10, constantValue := 0 }, { name := "INVALID_MESSAGE_LENGTH", type := .int, accessFlags := 25, slot := 11, constantValue := 0 }, { name := "USER_UNKNOWN", type := .int, accessFlags := 25, slot := 12, constantValue := 0 }, { name := "RATING_FAILED", type := .int, accessFlags := 25, slot := 13, constantValue := 0 }]
  methods := #[k2m0, k2m1]
  instanceTypes := #[]
  staticTypes := #[.int, .int, .int, .int, .int, .int, .int, .int, .int, .int, .int, .int, .int, .int]
  resolved := Array.replicate 46 none
  statics := none }

def pool3 : Array CpInfo := pool [(1, u "java/lang/Cloneable"), (0, .class_ 1), (0, u "java/lang/Object"), (0, .class_ 3)] 3

/-- java/lang/Cloneable -/
def k3 : Class := { plain "java/lang/Cloneable" (some 0) with
  accessFlags := 1537
  interfaces := #[]
  cf := some (fileOf pool3 2 #[] #[] 1537 4 #[] #[])
  fields := #[]
  methods := #[]
  instanceTypes := #[]
  staticTypes := #[]
  resolved := Array.replicate 8 none
  statics := none }

def pool4 : Array CpInfo := pool [(1, u "java/io/Serializable"), (0, .class_ 1), (0, u "java/lang/Object"), (0, .class_ 3)] 3

/-- java/io/Serializable -/
def k4 : Class := { plain "java/io/Serializable" (some 0) with
  accessFlags := 1537
  interfaces := #[]
  cf := some (fileOf pool4 2 #[] #[] 1537 4 #[] #[])
  fields := #[]
  methods := #[]
  instanceTypes := #[]
  staticTypes := #[]
  resolved := Array.replicate 8 none
  statics := none }

/-- the primitive byte -/
def k5 : Class := { plain "byte" none with kind := .primitive 'B', accessFlags := 0x411 }
/-- [B -/
def k6 : Class := { plain "[B" (some 0) with kind := .array 5 .byte, interfaces := #[3, 4], accessFlags := 1041 }

/-- the primitive int -/
def k7 : Class := { plain "int" none with kind := .primitive 'I', accessFlags := 0x411 }
/-- [I -/
def k8 : Class := { plain "[I" (some 0) with kind := .array 7 .int, interfaces := #[3, 4], accessFlags := 1041 }

def heap : Heap := #[]
def classes : Array Class := #[k0, k1, k2, k3, k4, k5, k6, k7, k8]
def interned : List (Array UInt16 × Addr) := []
def slotsUsed : Nat := 0
def theMethod : MethodId := ⟨1, 1⟩
def args0 : Array Value := #[.int 3005]
def aboutOver (below : List Frame) : State where
  vm := { classes := classes, interned := interned.toArray }
  heap := heap
  slotsUsed := slotsUsed
  threads := #[{ frames := .invoking theMethod args0 :: below }]
def below0 : List Frame := [.native { method := ⟨0, 0⟩, args := #[] }]
def about1 : State := aboutOver below0
def p0 : Program := .bare "" "" ""
def e0 : Env := launch0.env 0 0 0
theorem w_frames : about1.frames = Frame.invoking theMethod args0 :: below0 := rfl
set_option maxRecDepth 65536 in
theorem w_args : argsFit about1.vm theMethod args0 = true := by decide +kernel
set_option maxRecDepth 65536 in
theorem w_heap : heapFits about1 = true := by decide +kernel
set_option maxRecDepth 65536 in
theorem w_runnable : about1.curStatus? = some .runnable := by decide +kernel
set_option maxRecDepth 65536 in
theorem w_alone : about1.alone = true := by decide +kernel
set_option maxRecDepth 65536 in
theorem w_named : about1.methodNamed? x = some theMethod := by decide +kernel
set_option maxRecDepth 65536 in
theorem w_hears : about1.hears theMethod below0 = true := by decide +kernel
set_option maxRecDepth 65536 in
theorem w_ripe : about1.ripe theMethod args0 below0 = true := by decide +kernel
theorem w_running : about1.status = .running := rfl
set_option maxRecDepth 65536 in
theorem w_room : about1.hasRoom e0.platform room_1 = true :=
  launch0.hasRoom_least _ room_1 (by decide +kernel) (by decide +kernel) (by decide +kernel) (by decide +kernel) (by decide +kernel) (by decide +kernel)
theorem allAtoms_all (ts : List Jvm.Cond) (a : Array Jvm.Value) (st : Jvm.State) : (allAtoms ts).before a st = ts.all (fun c => c.before a st) := by
  induction ts with
  | nil => rfl
  | cons c t ih =>
    show (Jvm.Cond.and c (allAtoms t)).before a st = _
    rw [Jvm.Cond.before_and, ih, List.all_cons]
def words1 : List Jvm.Cond := Jvm.Cond.code x code maxLocals ret :: tables_1
/-- a 'code' word, met by the world's own term for the bytes: nothing is compared byte by byte -/
theorem code_word {y : MethodName} {bytes : ByteArray} {mx : Nat} {rt : Option FieldType} {a : Array Value} {s : State} {m : MethodId} {meth : Method} {c : Code} (h1 : s.methodNamed? y = some m) (h2 : s.vm.method? m = some meth) (h3 : meth.code = some c) (h4 : c.code = bytes)
    (h5 : (c.maxLocals == mx && c.exceptionTable.isEmpty && decide (c.maxStack ≤ mostOperands) && decide (meth.sig.returnType = rt) && !meth.locks && decide (parseMethodDescriptor y.desc = some meth.sig)) = true) : (Jvm.Cond.code y bytes mx rt).before a s = true := by
  simp only [Bool.and_eq_true, beq_iff_eq, Bool.not_eq_true', decide_eq_true_eq] at h5
  obtain ⟨⟨⟨⟨⟨g1, g2⟩, g3⟩, g4⟩, g5⟩, g6⟩ := h5
  simp [Cond.before, Cond.holds, Cond.value, h1, h2, h3, h4, g1, g2, g3, g4, g5, g6]
def isCode : Jvm.Cond → Bool
  | .code _ _ _ _ => true
  | _ => false
theorem all_split {L : List Jvm.Cond} {P : Jvm.Cond → Bool} (h1 : L.all (fun c => isCode c || P c) = true) (h2 : ∀ c ∈ L.filter isCode, P c = true) : L.all P = true := by
  refine List.all_eq_true.mpr fun c hc => ?_
  have h := List.all_eq_true.mp h1 c hc
  rcases Bool.eq_false_or_eq_true (isCode c) with hi | hi
  · exact h2 c (List.mem_filter.mpr ⟨hc, hi⟩)
  · simpa [hi] using h
set_option maxRecDepth 65536 in
theorem w_c0 : (Jvm.Cond.code x code maxLocals ret).before args0 about1 = true := code_word (m := ⟨1, 1⟩) (meth := k1m1) (c := k1c1) (by decide +kernel) rfl rfl rfl (by decide +kernel)
set_option maxRecDepth 65536 in
theorem w_c1 : (Jvm.Cond.code ({ cls := "com/example/tariffwise/tariffwise/diameter/ResultCode", name := "isProtocolError", desc := "(I)Z" } : Jvm.MethodName) prog_22_method_2_code (1 : Nat) (Option.some Jvm.ClassFile.FieldType.boolean)).before args0 about1 = true := code_word (m := ⟨2, 1⟩) (meth := k2m1) (c := k2c1) (by decide +kernel) rfl rfl rfl (by decide +kernel)
def codes1 : List Jvm.Cond := [Jvm.Cond.code x code maxLocals ret, Jvm.Cond.code ({ cls := "com/example/tariffwise/tariffwise/diameter/ResultCode", name := "isProtocolError", desc := "(I)Z" } : Jvm.MethodName) prog_22_method_2_code (1 : Nat) (Option.some Jvm.ClassFile.FieldType.boolean)]
set_option maxRecDepth 65536 in
theorem codes_eq : words1.filter isCode = codes1 := rfl
theorem w_codes : ∀ c ∈ words1.filter isCode, c.before args0 about1 = true := by
  rw [codes_eq]
  intro c hc
  simp only [codes1, List.mem_cons, List.not_mem_nil, or_false] at hc
  rcases hc with rfl | rfl
  · exact w_c0
  · exact w_c1
set_option maxRecDepth 65536 in
theorem w_t1 : words1.all (fun c => isCode c || c.before args0 about1) = true := by decide +kernel
theorem w_tables : (allAtoms (Jvm.Cond.code x code maxLocals ret :: tables_1)).before args0 about1 = true := by
  rw [allAtoms_all]
  show words1.all (fun c => c.before args0 about1) = true
  refine all_split ?_ w_codes
  rw [w_t1]
set_option maxRecDepth 65536 in
theorem w_case : (Jvm.Cond.and given_1 narrow_1).before args0 about1 = true := by decide +kernel
theorem w_applies : (headSpec (Jvm.Cond.code x code maxLocals ret :: tables_1) room_1).applies x e0.platform about1 = true :=
  (Spec.applies_iff w_frames).mpr ⟨w_running, w_runnable, w_alone, w_named, w_hears, w_ripe, w_room, w_tables⟩
theorem atStart : AtStart classFile x code maxLocals ret World_1 tables_1 room_1 Calls_1 rest_1 Pre_1 launch0 p0 e0 about1 theMethod args0 below0 :=
  ⟨lists_1, trivial, launch0.admits_env _ _ _, launch0.least_env, fairChoices_fair.cas, fairChoices_fair.clock, w_frames, w_args, w_heap, w_applies, trivial, trivial, w_case⟩
end start1
theorem witness_1 : WitnessClaimed_1 := ⟨start1.p0, start1.e0, start1.about1, start1.theMethod, start1.args0, start1.below0, start1.atStart⟩
end Jvm.Pilot.@@N@@
