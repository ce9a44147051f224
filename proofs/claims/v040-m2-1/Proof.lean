import JvmDerived
import JvmDerived.Pilot.@@N@@Statement
import JvmDerived.Pilot.@@N@@Code
set_option linter.unusedVariables false
set_option linter.unusedSimpArgs false
namespace Jvm.RoadKit
open Sem ClassFile Op Lib Jvm.Stand Jvm.Free Jvm.LawKit
section New
variable {p : Program} {l : Launch} {e : Env} {R : Room} {s : State} {m : MethodId} {args : Array Value} {below : List Frame} {meth : Method} {c : Code} {T : State} {locs : List Loc} {cells slots : Nat}
theorem retI (X : Stand p l e R s m args below meth c T locs cells slots) (hx : p.tables.exec = Jvm.exec) {pc : Nat} {Ls : Array Slot} {z : Int32} {rest : List Value} (hret : meth.sig.returnType = some .int) (hd : decode c.code pc = .ok (.ireturn, 1)) {fs : List Frame}
    (hl : ∀ (f : JFrame) (acts : List Action), f.method = m → f.locked = none → f.entered = [] → (doReturn e (T.setTop f) acts (some (.int z))).1 = T.setFrames fs) : Steps p.tables e below (T.setTop (mkF m pc Ls (.int z :: rest))) (T.setFrames fs) := by
  have hm' : T.vm.method? m = some meth := X.method'
  have hn : narrow .int (.int z) = .int z := rfl
  show Steps p.tables e below (T.setTop { method := m, pc := pc, locals := Ls, stack := _ :: rest, locked := none }) _
  jvm_step X.here [X.here.top, hx, hd, hm', hret, hn]
  first | (intro acts; rw [hl _ acts rfl rfl rfl]) | rw [hl _ _ rfl rfl rfl]
  exact Steps.refl _
theorem retJ (X : Stand p l e R s m args below meth c T locs cells slots) (hx : p.tables.exec = Jvm.exec) {pc : Nat} {Ls : Array Slot} {z : Int64} {rest : List Value} (hret : meth.sig.returnType = some .long) (hd : decode c.code pc = .ok (.lreturn, 1)) {fs : List Frame}
    (hl : ∀ (f : JFrame) (acts : List Action), f.method = m → f.locked = none → f.entered = [] → (doReturn e (T.setTop f) acts (some (.long z))).1 = T.setFrames fs) : Steps p.tables e below (T.setTop (mkF m pc Ls (.long z :: rest))) (T.setFrames fs) := by
  have hm' : T.vm.method? m = some meth := X.method'
  show Steps p.tables e below (T.setTop { method := m, pc := pc, locals := Ls, stack := _ :: rest, locked := none }) _
  jvm_step X.here [X.here.top, hx, hd, hm', hret, narrow]
  first | (intro acts; rw [hl _ acts rfl rfl rfl]) | rw [hl _ _ rfl rfl rfl]
  exact Steps.refl _
theorem retA (X : Stand p l e R s m args below meth c T locs cells slots) (hx : p.tables.exec = Jvm.exec) {pc : Nat} {Ls : Array Slot} {z : Value} {t : FieldType} {rest : List Value} (hret : meth.sig.returnType = some t) (ht : t.isReference = true) (hz : z.isRef = true) (hd : decode c.code pc = .ok (.areturn, 1)) {fs : List Frame}
    (hl : ∀ (f : JFrame) (acts : List Action), f.method = m → f.locked = none → f.entered = [] → (doReturn e (T.setTop f) acts (some z)).1 = T.setFrames fs) : Steps p.tables e below (T.setTop (mkF m pc Ls (z :: rest))) (T.setFrames fs) := by
  have hm' : T.vm.method? m = some meth := X.method'
  show Steps p.tables e below (T.setTop { method := m, pc := pc, locals := Ls, stack := _ :: rest, locked := none }) _
  jvm_step X.here [X.here.top, hx, hd, hm', hret, hz, ht]
  first | (intro acts; rw [hl _ acts rfl rfl rfl]) | rw [hl _ _ rfl rfl rfl]
  exact Steps.refl _
/-- what a body's contract owes from a state on -/
def Owe (p : Program) (e : Env) (below : List Frame) (first : State) (ck sk : Nat) (Q : Option Value → Heap → List Loc → Prop) (T : State) (g : JFrame) : Prop :=
  ∃ s₂ o, Steps p.tables e below (T.setTop g) s₂ ∧ s₂.status = .running ∧ Ended s₂ below o ∧ ∃ v L, o = .returned v ∧ Q v s₂.heap L ∧ FrameEnd first o s₂ L ck sk
theorem Owe.step {first : State} {ck sk : Nat} {Q : Option Value → Heap → List Loc → Prop} {T T' : State} {g g' : JFrame} (h : ∀ t, Steps p.tables e below (T'.setTop g') t → Steps p.tables e below (T.setTop g) t)
    (k : Owe p e below first ck sk Q T' g') : Owe p e below first ck sk Q T g := by
  obtain ⟨s₂, o, h1, h2⟩ := k
  exact ⟨s₂, o, h _ h1, h2⟩
theorem Owe.ret {ck sk : Nat} {Q : Option Value → Heap → List Loc → Prop} {g : JFrame} (X : Stand p l e R s m args below meth c T locs cells slots) (hlk : meth.locks = false) {v : Option Value} (hv : meth.sig.returnType = none → v = none)
    (hst : ∀ fs, (∀ (f : JFrame) (acts : List Action), f.method = m → f.locked = none → f.entered = [] → (doReturn e (T.setTop f) acts v).1 = T.setFrames fs) → Steps p.tables e below (T.setTop g) (T.setFrames fs))
    (hQ : Q v T.heap locs) (hc : cells ≤ ck) (hs : slots ≤ sk) : Owe p e below s ck sk Q T g := by
  obtain ⟨fs, hr, hrun, hended, hW, hsame⟩ := X.leave (v := v) hv hlk
  exact ⟨_, _, hst fs hr, hrun, hended, _, _, rfl, hQ, ⟨_, rfl⟩, hW, hsame.mono hc hs⟩
/-- a body that writes nothing and makes nothing: it returns w -/
def QP (w : Value) (h0 : Heap) (n0 : Nat) (v : Option Value) (h : Heap) (L : List Loc) : Prop := v = some w ∧ Fr n0 L ∧ h = h0
/-- .. and returns nothing -/
def QN (h0 : Heap) (n0 : Nat) (v : Option Value) (h : Heap) (L : List Loc) : Prop := v = none ∧ Fr n0 L ∧ h = h0
/-- the law itself -/
def QL (w : Value) (n0 : Nat) (v : Option Value) (h : Heap) (L : List Loc) : Prop := v = some w ∧ Fr n0 L
theorem Owe.cast {first : State} {ck sk n0 : Nat} {w w' : Int32} {g : JFrame} (q : w' = w) (k : Owe p e below first ck sk (QL (.int w') n0) T g) : Owe p e below first ck sk (QL (.int w) n0) T g := q ▸ k
end New
end Jvm.RoadKit
namespace Jvm.Pilot.@@N@@
open Jvm Jvm.ClassFile Sem Op Lib Jvm.Free Jvm.Stand Jvm.LawKit Jvm.RoadKit Bundle Jvm.Pilot.@@N@@.Jvm.D
theorem own_irem (x y : Int32) : x - (x / y) * y = x % y := by
  apply Int32.toInt_inj.mp
  have h1 := Int32.le_toInt (x % y)
  have h2 := Int32.toInt_lt (x % y)
  rw [Int32.toInt_sub, Int32.toInt_mul, Int32.toInt_div, Int.bmod_mul_bmod, Int.sub_bmod_bmod, Int.mul_comm (x.toInt.tdiv y.toInt), ← Int.tmod_def, ← Int32.toInt_mod]
  exact Int.bmod_eq_of_le_mul_two (by omega) (by omega)
/-- an index, told by its int -/
theorem own_ix {j : Int32} {n : Nat} (h0 : 0 ≤ j.toInt) (h1 : j.toInt < (n : Int)) : ¬ j < 0 ∧ j.toNatClampNeg < n := by
  rw [Int32.lt_iff_toInt_lt]
  have e0 : (0 : Int32).toInt = 0 := rfl
  have e1 : j.toNatClampNeg = j.toInt.toNat := rfl
  rw [e0, e1]; omega
theorem own_d1_0 : decode method_2_code 0 = .ok (.iload_n 0, 1) := by decide +kernel
theorem own_d1_1 : decode method_2_code 1 = .ok (.ifCond .ne 7, 3) := by decide +kernel
theorem own_d1_4 : decode method_2_code 4 = .ok (.getstatic 7, 3) := by decide +kernel
theorem own_d1_7 : decode method_2_code 7 = .ok (.areturn, 1) := by decide +kernel
theorem own_d1_8 : decode method_2_code 8 = .ok (.iload_n 0, 1) := by decide +kernel
theorem own_d1_9 : decode method_2_code 9 = .ok (.iconst 1, 1) := by decide +kernel
theorem own_d1_10 : decode method_2_code 10 = .ok (.if_icmp .ne 7, 3) := by decide +kernel
theorem own_d1_13 : decode method_2_code 13 = .ok (.getstatic 13, 3) := by decide +kernel
theorem own_d1_16 : decode method_2_code 16 = .ok (.areturn, 1) := by decide +kernel
theorem own_d1_17 : decode method_2_code 17 = .ok (.iload_n 0, 1) := by decide +kernel
theorem own_d1_18 : decode method_2_code 18 = .ok (.iconst 2, 1) := by decide +kernel
theorem own_d1_19 : decode method_2_code 19 = .ok (.if_icmp .ne 7, 3) := by decide +kernel
theorem own_d1_22 : decode method_2_code 22 = .ok (.getstatic 16, 3) := by decide +kernel
theorem own_d1_25 : decode method_2_code 25 = .ok (.areturn, 1) := by decide +kernel
theorem own_d1_26 : decode method_2_code 26 = .ok (.iload_n 0, 1) := by decide +kernel
theorem own_d1_27 : decode method_2_code 27 = .ok (.iconst 3, 1) := by decide +kernel
theorem own_d1_28 : decode method_2_code 28 = .ok (.if_icmp .ne 7, 3) := by decide +kernel
theorem own_d1_31 : decode method_2_code 31 = .ok (.getstatic 19, 3) := by decide +kernel
theorem own_d1_34 : decode method_2_code 34 = .ok (.areturn, 1) := by decide +kernel
theorem own_d1_35 : decode method_2_code 35 = .ok (.iload_n 0, 1) := by decide +kernel
theorem own_d1_36 : decode method_2_code 36 = .ok (.iconst 4, 1) := by decide +kernel
theorem own_d1_37 : decode method_2_code 37 = .ok (.if_icmp .ne 7, 3) := by decide +kernel
theorem own_d1_40 : decode method_2_code 40 = .ok (.getstatic 22, 3) := by decide +kernel
theorem own_d1_43 : decode method_2_code 43 = .ok (.areturn, 1) := by decide +kernel
theorem own_d1_44 : decode method_2_code 44 = .ok (.iload_n 0, 1) := by decide +kernel
theorem own_d1_45 : decode method_2_code 45 = .ok (.iconst 5, 1) := by decide +kernel
theorem own_d1_46 : decode method_2_code 46 = .ok (.if_icmp .ne 7, 3) := by decide +kernel
theorem own_d1_49 : decode method_2_code 49 = .ok (.getstatic 25, 3) := by decide +kernel
theorem own_d1_52 : decode method_2_code 52 = .ok (.areturn, 1) := by decide +kernel
theorem own_d1_53 : decode method_2_code 53 = .ok (.iload_n 0, 1) := by decide +kernel
theorem own_d1_54 : decode method_2_code 54 = .ok (.bipush 6, 2) := by decide +kernel
theorem own_d1_56 : decode method_2_code 56 = .ok (.if_icmp .ne 7, 3) := by decide +kernel
theorem own_d1_59 : decode method_2_code 59 = .ok (.getstatic 28, 3) := by decide +kernel
theorem own_d1_62 : decode method_2_code 62 = .ok (.areturn, 1) := by decide +kernel
theorem own_d1_63 : decode method_2_code 63 = .ok (.iload_n 0, 1) := by decide +kernel
theorem own_d1_64 : decode method_2_code 64 = .ok (.bipush 7, 2) := by decide +kernel
theorem own_d1_66 : decode method_2_code 66 = .ok (.if_icmp .ne 7, 3) := by decide +kernel
theorem own_d1_69 : decode method_2_code 69 = .ok (.getstatic 31, 3) := by decide +kernel
theorem own_d1_72 : decode method_2_code 72 = .ok (.areturn, 1) := by decide +kernel
theorem own_d1_73 : decode method_2_code 73 = .ok (.iload_n 0, 1) := by decide +kernel
theorem own_d1_74 : decode method_2_code 74 = .ok (.bipush 8, 2) := by decide +kernel
theorem own_d1_76 : decode method_2_code 76 = .ok (.if_icmp .ne 7, 3) := by decide +kernel
theorem own_d1_79 : decode method_2_code 79 = .ok (.getstatic 34, 3) := by decide +kernel
theorem own_d1_82 : decode method_2_code 82 = .ok (.areturn, 1) := by decide +kernel
theorem own_d1_83 : decode method_2_code 83 = .ok (.iload_n 0, 1) := by decide +kernel
theorem own_d1_84 : decode method_2_code 84 = .ok (.bipush 9, 2) := by decide +kernel
theorem own_d1_86 : decode method_2_code 86 = .ok (.if_icmp .ne 7, 3) := by decide +kernel
theorem own_d1_89 : decode method_2_code 89 = .ok (.getstatic 37, 3) := by decide +kernel
theorem own_d1_92 : decode method_2_code 92 = .ok (.areturn, 1) := by decide +kernel
theorem own_d1_93 : decode method_2_code 93 = .ok (.iload_n 0, 1) := by decide +kernel
theorem own_d1_94 : decode method_2_code 94 = .ok (.bipush 10, 2) := by decide +kernel
theorem own_d1_96 : decode method_2_code 96 = .ok (.if_icmp .ne 7, 3) := by decide +kernel
theorem own_d1_99 : decode method_2_code 99 = .ok (.getstatic 40, 3) := by decide +kernel
theorem own_d1_102 : decode method_2_code 102 = .ok (.areturn, 1) := by decide +kernel
theorem own_d1_103 : decode method_2_code 103 = .ok (.iload_n 0, 1) := by decide +kernel
theorem own_d1_104 : decode method_2_code 104 = .ok (.bipush 11, 2) := by decide +kernel
theorem own_d1_106 : decode method_2_code 106 = .ok (.if_icmp .ne 7, 3) := by decide +kernel
theorem own_d1_109 : decode method_2_code 109 = .ok (.getstatic 43, 3) := by decide +kernel
theorem own_d1_112 : decode method_2_code 112 = .ok (.areturn, 1) := by decide +kernel
theorem own_d1_113 : decode method_2_code 113 = .ok (.getstatic 46, 3) := by decide +kernel
theorem own_d1_116 : decode method_2_code 116 = .ok (.areturn, 1) := by decide +kernel
theorem own_pn0 : plainName "com/example/tariffwise/tariffwise/diameter/AvpTypeFitsPinLaw" = true := by first | (simp [plainName, overriddenIn]; done) | decide +kernel
theorem own_ef1 (m : MethodId) (p0 : Int32) : entryFrame m #[(.int p0)] 1 = mkF m 0 #[.val (.int p0)] [] := by first | (simp [entryFrame, mkF, argsToLocals, Value.category]; done) | rfl
def own_f1_0 (p0 : Int32) (w_OCTET_STRING : Addr) (w_INTEGER32 : Addr) (w_INTEGER64 : Addr) (w_UNSIGNED32 : Addr) (w_UNSIGNED64 : Addr) (w_GROUPED : Addr) (w_ADDRESS : Addr) (w_TIME : Addr) (w_UTF8_STRING : Addr) (w_DIAMETER_IDENTITY : Addr) (w_DIAMETER_URI : Addr) (w_ENUMERATED : Addr) (w_IP_FILTER_RULE : Addr) : Addr := (if p0 = (0 : Int32) then w_OCTET_STRING else (if p0 = (1 : Int32) then w_INTEGER32 else (if p0 = (2 : Int32) then w_INTEGER64 else (if p0 = (3 : Int32) then w_UNSIGNED32 else (if p0 = (4 : Int32) then w_UNSIGNED64 else (if p0 = (5 : Int32) then w_GROUPED else (if p0 = (6 : Int32) then w_ADDRESS else (if p0 = (7 : Int32) then w_TIME else (if p0 = (8 : Int32) then w_UTF8_STRING else (if p0 = (9 : Int32) then w_DIAMETER_IDENTITY else (if p0 = (10 : Int32) then w_DIAMETER_URI else (if p0 = (11 : Int32) then w_ENUMERATED else w_IP_FILTER_RULE))))))))))))
set_option maxRecDepth 65536 in
set_option maxHeartbeats 40000000 in
theorem own_rm1 (l : Launch) (Z : State) (aA : Array Value) (hw : ∀ d ∈ tables_1, d.before aA Z = true) (ws : List Jvm.Cond) (p0 : Int32) (w_OCTET_STRING : Addr) (w_INTEGER32 : Addr) (w_INTEGER64 : Addr) (w_UNSIGNED32 : Addr) (w_UNSIGNED64 : Addr) (w_GROUPED : Addr) (w_ADDRESS : Addr) (w_TIME : Addr) (w_UTF8_STRING : Addr) (w_DIAMETER_IDENTITY : Addr) (w_DIAMETER_URI : Addr) (w_ENUMERATED : Addr) (w_IP_FILTER_RULE : Addr) (h0 : Heap) (n0 : Nat) (Z0 : n0 ≤ h0.size) (S_OCTET_STRING : Sta Z h0 "com/example/tariffwise/tariffwise/diameter/AvpType" "OCTET_STRING" "Lcom/example/tariffwise/tariffwise/diameter/AvpType;" (.ref w_OCTET_STRING)) (S_INTEGER32 : Sta Z h0 "com/example/tariffwise/tariffwise/diameter/AvpType" "INTEGER32" "Lcom/example/tariffwise/tariffwise/diameter/AvpType;" (.ref w_INTEGER32)) (S_INTEGER64 : Sta Z h0 "com/example/tariffwise/tariffwise/diameter/AvpType" "INTEGER64" "Lcom/example/tariffwise/tariffwise/diameter/AvpType;" (.ref w_INTEGER64)) (S_UNSIGNED32 : Sta Z h0 "com/example/tariffwise/tariffwise/diameter/AvpType" "UNSIGNED32" "Lcom/example/tariffwise/tariffwise/diameter/AvpType;" (.ref w_UNSIGNED32)) (S_UNSIGNED64 : Sta Z h0 "com/example/tariffwise/tariffwise/diameter/AvpType" "UNSIGNED64" "Lcom/example/tariffwise/tariffwise/diameter/AvpType;" (.ref w_UNSIGNED64)) (S_GROUPED : Sta Z h0 "com/example/tariffwise/tariffwise/diameter/AvpType" "GROUPED" "Lcom/example/tariffwise/tariffwise/diameter/AvpType;" (.ref w_GROUPED)) (S_ADDRESS : Sta Z h0 "com/example/tariffwise/tariffwise/diameter/AvpType" "ADDRESS" "Lcom/example/tariffwise/tariffwise/diameter/AvpType;" (.ref w_ADDRESS)) (S_TIME : Sta Z h0 "com/example/tariffwise/tariffwise/diameter/AvpType" "TIME" "Lcom/example/tariffwise/tariffwise/diameter/AvpType;" (.ref w_TIME)) (S_UTF8_STRING : Sta Z h0 "com/example/tariffwise/tariffwise/diameter/AvpType" "UTF8_STRING" "Lcom/example/tariffwise/tariffwise/diameter/AvpType;" (.ref w_UTF8_STRING)) (S_DIAMETER_IDENTITY : Sta Z h0 "com/example/tariffwise/tariffwise/diameter/AvpType" "DIAMETER_IDENTITY" "Lcom/example/tariffwise/tariffwise/diameter/AvpType;" (.ref w_DIAMETER_IDENTITY)) (S_DIAMETER_URI : Sta Z h0 "com/example/tariffwise/tariffwise/diameter/AvpType" "DIAMETER_URI" "Lcom/example/tariffwise/tariffwise/diameter/AvpType;" (.ref w_DIAMETER_URI)) (S_ENUMERATED : Sta Z h0 "com/example/tariffwise/tariffwise/diameter/AvpType" "ENUMERATED" "Lcom/example/tariffwise/tariffwise/diameter/AvpType;" (.ref w_ENUMERATED)) (S_IP_FILTER_RULE : Sta Z h0 "com/example/tariffwise/tariffwise/diameter/AvpType" "IP_FILTER_RULE" "Lcom/example/tariffwise/tariffwise/diameter/AvpType;" (.ref w_IP_FILTER_RULE)) :
    MetFree l (⟨"com/example/tariffwise/tariffwise/diameter/AvpTypeFitsPinLaw", "pick", "(I)Lcom/example/tariffwise/tariffwise/diameter/AvpType;"⟩ : MethodName) (head1 (Jvm.Cond.code (⟨"com/example/tariffwise/tariffwise/diameter/AvpTypeFitsPinLaw", "pick", "(I)Lcom/example/tariffwise/tariffwise/diameter/AvpType;"⟩ : MethodName) method_2_code 1 (some (.object "com/example/tariffwise/tariffwise/diameter/AvpType")) :: ws) ({ frames := 0, cells := 0, slots := 0, locals := 0 } : Room)) (fun a U => a = #[(.int p0)] ∧ Z.Warmed39 U.vm ∧ U.heap = h0) (fun _ _ _ _ _ => True) (fun _ U o U' => ∃ v L, o = .returned v ∧ (QP (.ref (own_f1_0 p0 w_OCTET_STRING w_INTEGER32 w_INTEGER64 w_UNSIGNED32 w_UNSIGNED64 w_GROUPED w_ADDRESS w_TIME w_UTF8_STRING w_DIAMETER_IDENTITY w_DIAMETER_URI w_ENUMERATED w_IP_FILTER_RULE)) h0 n0) v U'.heap L ∧ FrameEnd U o U' L ({ frames := 0, cells := 0, slots := 0, locals := 0 } : Room).cells ({ frames := 0, cells := 0, slots := 0, locals := 0 } : Room).slots) := by
  refine MetFree.of_bodySF (plainFor_of_name own_pn0) hisR ?_
  intro p e s m args below meth c s₁ Bd hml0 hP hK
  obtain ⟨rfl, hZ, hh⟩ := hP
  have hx := Bd.exec
  have hby := Bd.bytes
  have hml : c.maxLocals = 1 := hml0
  have hown : s.vm.findClass "com/example/tariffwise/tariffwise/diameter/AvpTypeFitsPinLaw" = some m.cls := findClass_of_methodNamed Bd.named
  have hnm := (name_of_methodNamed Bd.named Bd.method).1
  have X0 : Stand p l e ({ frames := 0, cells := 0, slots := 0, locals := 0 } : Room) s m #[(.int p0)] below meth c s₁ [] 0 0 := Stand.of_body Bd
  have e0 : s₁.heap = h0 := by rw [← hh, Bd.state]; rfl
  have N0 := Fr.nil n0
  refine Owe.step (T := s₁) (T' := s₁) (g' := (mkF m 0 #[.val (.int p0)] [])) (fun t k => castTop (own_ef1 m p0) k) ?_
  refine Owe.step (T' := s₁) (g' := (mkF m 1 #[.val (.int p0)] [(.int p0)])) (fun t k => ?_) ?_
  · show Steps p.tables e below (s₁.setTop (mkF m 0 #[.val (.int p0)] [])) t
    refine XS.iloadN X0.here hx rfl (hb hby own_d1_0) rfl ?_
    show Steps p.tables e below (s₁.setTop (mkF m 1 #[.val (.int p0)] [(.int p0)])) t
    exact k
  by_cases hc1 : p0 = (0 : Int32)
  · refine Owe.step (T' := s₁) (g' := (mkF m 4 #[.val (.int p0)] [])) (fun t k => ?_) ?_
    · show Steps p.tables e below (s₁.setTop (mkF m 1 #[.val (.int p0)] [(.int p0)])) t
      refine XS.ifNo X0.here hx rfl (hb hby own_d1_1) rfl ((if0 _ _).trans (teq hc1).2) ?_
      show Steps p.tables e below (s₁.setTop (mkF m 4 #[.val (.int p0)] [])) t
      exact k
    obtain ⟨T1, X1, e1, st1⟩ := getS2 X0 hx hZ hown (host := "") (Or.inl (hw _ (List.mem_of_getElem? (i := 5) rfl))) Via.refl e0 S_OCTET_STRING (g := (mkF m 4 #[.val (.int p0)] [])) rfl (hb hby own_d1_4)
    refine Owe.step (T' := T1) (g' := (mkF m 7 #[.val (.int p0)] [(.ref w_OCTET_STRING)])) (fun t k => ?_) ?_
    · show Steps p.tables e below (s₁.setTop (mkF m 4 #[.val (.int p0)] [])) t
      refine st1 _ ?_
      show Steps p.tables e below (T1.setTop (mkF m 7 #[.val (.int p0)] [(.ref w_OCTET_STRING)])) t
      exact k
    rw [show own_f1_0 p0 w_OCTET_STRING w_INTEGER32 w_INTEGER64 w_UNSIGNED32 w_UNSIGNED64 w_GROUPED w_ADDRESS w_TIME w_UTF8_STRING w_DIAMETER_IDENTITY w_DIAMETER_URI w_ENUMERATED w_IP_FILTER_RULE = w_OCTET_STRING from (by rw [own_f1_0, if_pos hc1])]
    refine Owe.ret X1 Bd.notSynchronized (v := (some (.ref w_OCTET_STRING))) (fun h => by rw [Bd.returns] at h; cases h) (fun fs hr => ?_) ⟨rfl, N0, e1⟩ (by decide) (by decide)
    show Steps p.tables e below (T1.setTop (mkF m 7 #[.val (.int p0)] [(.ref w_OCTET_STRING)])) _
    exact retA X1 hx Bd.returns rfl rfl (hb hby own_d1_7) hr
  · refine Owe.step (T' := s₁) (g' := (mkF m 8 #[.val (.int p0)] [])) (fun t k => ?_) ?_
    · show Steps p.tables e below (s₁.setTop (mkF m 1 #[.val (.int p0)] [(.int p0)])) t
      refine XS.ifYes X0.here hx rfl (pc0 := 1) (pc' := 8) rfl (hb hby own_d1_1) rfl ((if0 _ _).trans (feq hc1).2) (by decide) (by decide) ?_
      show Steps p.tables e below (s₁.setTop (mkF m 8 #[.val (.int p0)] [])) t
      exact k
    refine Owe.step (T' := s₁) (g' := (mkF m 10 #[.val (.int p0)] [(.int (1 : Int32)), (.int p0)])) (fun t k => ?_) ?_
    · show Steps p.tables e below (s₁.setTop (mkF m 8 #[.val (.int p0)] [])) t
      refine XS.iloadN X0.here hx rfl (hb hby own_d1_8) rfl ?_
      show Steps p.tables e below (s₁.setTop (mkF m 9 #[.val (.int p0)] [(.int p0)])) t
      refine XS.iconst X0.here hx rfl (hb hby own_d1_9) ?_
      show Steps p.tables e below (s₁.setTop (mkF m 10 #[.val (.int p0)] [(.int (1 : Int32)), (.int p0)])) t
      exact k
    by_cases hc10 : p0 = (1 : Int32)
    · refine Owe.step (T' := s₁) (g' := (mkF m 13 #[.val (.int p0)] [])) (fun t k => ?_) ?_
      · show Steps p.tables e below (s₁.setTop (mkF m 10 #[.val (.int p0)] [(.int (1 : Int32)), (.int p0)])) t
        refine XS.icmpNo X0.here hx rfl (hb hby own_d1_10) rfl (teq hc10).2 ?_
        show Steps p.tables e below (s₁.setTop (mkF m 13 #[.val (.int p0)] [])) t
        exact k
      obtain ⟨T2, X2, e2, st2⟩ := getS2 X0 hx hZ hown (host := "") (Or.inl (hw _ (List.mem_of_getElem? (i := 18) rfl))) Via.refl e0 S_INTEGER32 (g := (mkF m 13 #[.val (.int p0)] [])) rfl (hb hby own_d1_13)
      refine Owe.step (T' := T2) (g' := (mkF m 16 #[.val (.int p0)] [(.ref w_INTEGER32)])) (fun t k => ?_) ?_
      · show Steps p.tables e below (s₁.setTop (mkF m 13 #[.val (.int p0)] [])) t
        refine st2 _ ?_
        show Steps p.tables e below (T2.setTop (mkF m 16 #[.val (.int p0)] [(.ref w_INTEGER32)])) t
        exact k
      rw [show own_f1_0 p0 w_OCTET_STRING w_INTEGER32 w_INTEGER64 w_UNSIGNED32 w_UNSIGNED64 w_GROUPED w_ADDRESS w_TIME w_UTF8_STRING w_DIAMETER_IDENTITY w_DIAMETER_URI w_ENUMERATED w_IP_FILTER_RULE = w_INTEGER32 from (by rw [own_f1_0, if_neg hc1, if_pos hc10])]
      refine Owe.ret X2 Bd.notSynchronized (v := (some (.ref w_INTEGER32))) (fun h => by rw [Bd.returns] at h; cases h) (fun fs hr => ?_) ⟨rfl, N0, e2⟩ (by decide) (by decide)
      show Steps p.tables e below (T2.setTop (mkF m 16 #[.val (.int p0)] [(.ref w_INTEGER32)])) _
      exact retA X2 hx Bd.returns rfl rfl (hb hby own_d1_16) hr
    · refine Owe.step (T' := s₁) (g' := (mkF m 17 #[.val (.int p0)] [])) (fun t k => ?_) ?_
      · show Steps p.tables e below (s₁.setTop (mkF m 10 #[.val (.int p0)] [(.int (1 : Int32)), (.int p0)])) t
        refine XS.icmpYes X0.here hx rfl (pc0 := 10) (pc' := 17) rfl (hb hby own_d1_10) rfl (feq hc10).2 (by decide) (by decide) ?_
        show Steps p.tables e below (s₁.setTop (mkF m 17 #[.val (.int p0)] [])) t
        exact k
      refine Owe.step (T' := s₁) (g' := (mkF m 19 #[.val (.int p0)] [(.int (2 : Int32)), (.int p0)])) (fun t k => ?_) ?_
      · show Steps p.tables e below (s₁.setTop (mkF m 17 #[.val (.int p0)] [])) t
        refine XS.iloadN X0.here hx rfl (hb hby own_d1_17) rfl ?_
        show Steps p.tables e below (s₁.setTop (mkF m 18 #[.val (.int p0)] [(.int p0)])) t
        refine XS.iconst X0.here hx rfl (hb hby own_d1_18) ?_
        show Steps p.tables e below (s₁.setTop (mkF m 19 #[.val (.int p0)] [(.int (2 : Int32)), (.int p0)])) t
        exact k
      by_cases hc19 : p0 = (2 : Int32)
      · refine Owe.step (T' := s₁) (g' := (mkF m 22 #[.val (.int p0)] [])) (fun t k => ?_) ?_
        · show Steps p.tables e below (s₁.setTop (mkF m 19 #[.val (.int p0)] [(.int (2 : Int32)), (.int p0)])) t
          refine XS.icmpNo X0.here hx rfl (hb hby own_d1_19) rfl (teq hc19).2 ?_
          show Steps p.tables e below (s₁.setTop (mkF m 22 #[.val (.int p0)] [])) t
          exact k
        obtain ⟨T3, X3, e3, st3⟩ := getS2 X0 hx hZ hown (host := "") (Or.inl (hw _ (List.mem_of_getElem? (i := 38) rfl))) Via.refl e0 S_INTEGER64 (g := (mkF m 22 #[.val (.int p0)] [])) rfl (hb hby own_d1_22)
        refine Owe.step (T' := T3) (g' := (mkF m 25 #[.val (.int p0)] [(.ref w_INTEGER64)])) (fun t k => ?_) ?_
        · show Steps p.tables e below (s₁.setTop (mkF m 22 #[.val (.int p0)] [])) t
          refine st3 _ ?_
          show Steps p.tables e below (T3.setTop (mkF m 25 #[.val (.int p0)] [(.ref w_INTEGER64)])) t
          exact k
        rw [show own_f1_0 p0 w_OCTET_STRING w_INTEGER32 w_INTEGER64 w_UNSIGNED32 w_UNSIGNED64 w_GROUPED w_ADDRESS w_TIME w_UTF8_STRING w_DIAMETER_IDENTITY w_DIAMETER_URI w_ENUMERATED w_IP_FILTER_RULE = w_INTEGER64 from (by rw [own_f1_0, if_neg hc1, if_neg hc10, if_pos hc19])]
        refine Owe.ret X3 Bd.notSynchronized (v := (some (.ref w_INTEGER64))) (fun h => by rw [Bd.returns] at h; cases h) (fun fs hr => ?_) ⟨rfl, N0, e3⟩ (by decide) (by decide)
        show Steps p.tables e below (T3.setTop (mkF m 25 #[.val (.int p0)] [(.ref w_INTEGER64)])) _
        exact retA X3 hx Bd.returns rfl rfl (hb hby own_d1_25) hr
      · refine Owe.step (T' := s₁) (g' := (mkF m 26 #[.val (.int p0)] [])) (fun t k => ?_) ?_
        · show Steps p.tables e below (s₁.setTop (mkF m 19 #[.val (.int p0)] [(.int (2 : Int32)), (.int p0)])) t
          refine XS.icmpYes X0.here hx rfl (pc0 := 19) (pc' := 26) rfl (hb hby own_d1_19) rfl (feq hc19).2 (by decide) (by decide) ?_
          show Steps p.tables e below (s₁.setTop (mkF m 26 #[.val (.int p0)] [])) t
          exact k
        refine Owe.step (T' := s₁) (g' := (mkF m 28 #[.val (.int p0)] [(.int (3 : Int32)), (.int p0)])) (fun t k => ?_) ?_
        · show Steps p.tables e below (s₁.setTop (mkF m 26 #[.val (.int p0)] [])) t
          refine XS.iloadN X0.here hx rfl (hb hby own_d1_26) rfl ?_
          show Steps p.tables e below (s₁.setTop (mkF m 27 #[.val (.int p0)] [(.int p0)])) t
          refine XS.iconst X0.here hx rfl (hb hby own_d1_27) ?_
          show Steps p.tables e below (s₁.setTop (mkF m 28 #[.val (.int p0)] [(.int (3 : Int32)), (.int p0)])) t
          exact k
        by_cases hc28 : p0 = (3 : Int32)
        · refine Owe.step (T' := s₁) (g' := (mkF m 31 #[.val (.int p0)] [])) (fun t k => ?_) ?_
          · show Steps p.tables e below (s₁.setTop (mkF m 28 #[.val (.int p0)] [(.int (3 : Int32)), (.int p0)])) t
            refine XS.icmpNo X0.here hx rfl (hb hby own_d1_28) rfl (teq hc28).2 ?_
            show Steps p.tables e below (s₁.setTop (mkF m 31 #[.val (.int p0)] [])) t
            exact k
          obtain ⟨T4, X4, e4, st4⟩ := getS2 X0 hx hZ hown (host := "") (Or.inl (hw _ (List.mem_of_getElem? (i := 30) rfl))) Via.refl e0 S_UNSIGNED32 (g := (mkF m 31 #[.val (.int p0)] [])) rfl (hb hby own_d1_31)
          refine Owe.step (T' := T4) (g' := (mkF m 34 #[.val (.int p0)] [(.ref w_UNSIGNED32)])) (fun t k => ?_) ?_
          · show Steps p.tables e below (s₁.setTop (mkF m 31 #[.val (.int p0)] [])) t
            refine st4 _ ?_
            show Steps p.tables e below (T4.setTop (mkF m 34 #[.val (.int p0)] [(.ref w_UNSIGNED32)])) t
            exact k
          rw [show own_f1_0 p0 w_OCTET_STRING w_INTEGER32 w_INTEGER64 w_UNSIGNED32 w_UNSIGNED64 w_GROUPED w_ADDRESS w_TIME w_UTF8_STRING w_DIAMETER_IDENTITY w_DIAMETER_URI w_ENUMERATED w_IP_FILTER_RULE = w_UNSIGNED32 from (by rw [own_f1_0, if_neg hc1, if_neg hc10, if_neg hc19, if_pos hc28])]
          refine Owe.ret X4 Bd.notSynchronized (v := (some (.ref w_UNSIGNED32))) (fun h => by rw [Bd.returns] at h; cases h) (fun fs hr => ?_) ⟨rfl, N0, e4⟩ (by decide) (by decide)
          show Steps p.tables e below (T4.setTop (mkF m 34 #[.val (.int p0)] [(.ref w_UNSIGNED32)])) _
          exact retA X4 hx Bd.returns rfl rfl (hb hby own_d1_34) hr
        · refine Owe.step (T' := s₁) (g' := (mkF m 35 #[.val (.int p0)] [])) (fun t k => ?_) ?_
          · show Steps p.tables e below (s₁.setTop (mkF m 28 #[.val (.int p0)] [(.int (3 : Int32)), (.int p0)])) t
            refine XS.icmpYes X0.here hx rfl (pc0 := 28) (pc' := 35) rfl (hb hby own_d1_28) rfl (feq hc28).2 (by decide) (by decide) ?_
            show Steps p.tables e below (s₁.setTop (mkF m 35 #[.val (.int p0)] [])) t
            exact k
          refine Owe.step (T' := s₁) (g' := (mkF m 37 #[.val (.int p0)] [(.int (4 : Int32)), (.int p0)])) (fun t k => ?_) ?_
          · show Steps p.tables e below (s₁.setTop (mkF m 35 #[.val (.int p0)] [])) t
            refine XS.iloadN X0.here hx rfl (hb hby own_d1_35) rfl ?_
            show Steps p.tables e below (s₁.setTop (mkF m 36 #[.val (.int p0)] [(.int p0)])) t
            refine XS.iconst X0.here hx rfl (hb hby own_d1_36) ?_
            show Steps p.tables e below (s₁.setTop (mkF m 37 #[.val (.int p0)] [(.int (4 : Int32)), (.int p0)])) t
            exact k
          by_cases hc37 : p0 = (4 : Int32)
          · refine Owe.step (T' := s₁) (g' := (mkF m 40 #[.val (.int p0)] [])) (fun t k => ?_) ?_
            · show Steps p.tables e below (s₁.setTop (mkF m 37 #[.val (.int p0)] [(.int (4 : Int32)), (.int p0)])) t
              refine XS.icmpNo X0.here hx rfl (hb hby own_d1_37) rfl (teq hc37).2 ?_
              show Steps p.tables e below (s₁.setTop (mkF m 40 #[.val (.int p0)] [])) t
              exact k
            obtain ⟨T5, X5, e5, st5⟩ := getS2 X0 hx hZ hown (host := "") (Or.inl (hw _ (List.mem_of_getElem? (i := 34) rfl))) Via.refl e0 S_UNSIGNED64 (g := (mkF m 40 #[.val (.int p0)] [])) rfl (hb hby own_d1_40)
            refine Owe.step (T' := T5) (g' := (mkF m 43 #[.val (.int p0)] [(.ref w_UNSIGNED64)])) (fun t k => ?_) ?_
            · show Steps p.tables e below (s₁.setTop (mkF m 40 #[.val (.int p0)] [])) t
              refine st5 _ ?_
              show Steps p.tables e below (T5.setTop (mkF m 43 #[.val (.int p0)] [(.ref w_UNSIGNED64)])) t
              exact k
            rw [show own_f1_0 p0 w_OCTET_STRING w_INTEGER32 w_INTEGER64 w_UNSIGNED32 w_UNSIGNED64 w_GROUPED w_ADDRESS w_TIME w_UTF8_STRING w_DIAMETER_IDENTITY w_DIAMETER_URI w_ENUMERATED w_IP_FILTER_RULE = w_UNSIGNED64 from (by rw [own_f1_0, if_neg hc1, if_neg hc10, if_neg hc19, if_neg hc28, if_pos hc37])]
            refine Owe.ret X5 Bd.notSynchronized (v := (some (.ref w_UNSIGNED64))) (fun h => by rw [Bd.returns] at h; cases h) (fun fs hr => ?_) ⟨rfl, N0, e5⟩ (by decide) (by decide)
            show Steps p.tables e below (T5.setTop (mkF m 43 #[.val (.int p0)] [(.ref w_UNSIGNED64)])) _
            exact retA X5 hx Bd.returns rfl rfl (hb hby own_d1_43) hr
          · refine Owe.step (T' := s₁) (g' := (mkF m 44 #[.val (.int p0)] [])) (fun t k => ?_) ?_
            · show Steps p.tables e below (s₁.setTop (mkF m 37 #[.val (.int p0)] [(.int (4 : Int32)), (.int p0)])) t
              refine XS.icmpYes X0.here hx rfl (pc0 := 37) (pc' := 44) rfl (hb hby own_d1_37) rfl (feq hc37).2 (by decide) (by decide) ?_
              show Steps p.tables e below (s₁.setTop (mkF m 44 #[.val (.int p0)] [])) t
              exact k
            refine Owe.step (T' := s₁) (g' := (mkF m 46 #[.val (.int p0)] [(.int (5 : Int32)), (.int p0)])) (fun t k => ?_) ?_
            · show Steps p.tables e below (s₁.setTop (mkF m 44 #[.val (.int p0)] [])) t
              refine XS.iloadN X0.here hx rfl (hb hby own_d1_44) rfl ?_
              show Steps p.tables e below (s₁.setTop (mkF m 45 #[.val (.int p0)] [(.int p0)])) t
              refine XS.iconst X0.here hx rfl (hb hby own_d1_45) ?_
              show Steps p.tables e below (s₁.setTop (mkF m 46 #[.val (.int p0)] [(.int (5 : Int32)), (.int p0)])) t
              exact k
            by_cases hc46 : p0 = (5 : Int32)
            · refine Owe.step (T' := s₁) (g' := (mkF m 49 #[.val (.int p0)] [])) (fun t k => ?_) ?_
              · show Steps p.tables e below (s₁.setTop (mkF m 46 #[.val (.int p0)] [(.int (5 : Int32)), (.int p0)])) t
                refine XS.icmpNo X0.here hx rfl (hb hby own_d1_46) rfl (teq hc46).2 ?_
                show Steps p.tables e below (s₁.setTop (mkF m 49 #[.val (.int p0)] [])) t
                exact k
              obtain ⟨T6, X6, e6, st6⟩ := getS2 X0 hx hZ hown (host := "") (Or.inl (hw _ (List.mem_of_getElem? (i := 36) rfl))) Via.refl e0 S_GROUPED (g := (mkF m 49 #[.val (.int p0)] [])) rfl (hb hby own_d1_49)
              refine Owe.step (T' := T6) (g' := (mkF m 52 #[.val (.int p0)] [(.ref w_GROUPED)])) (fun t k => ?_) ?_
              · show Steps p.tables e below (s₁.setTop (mkF m 49 #[.val (.int p0)] [])) t
                refine st6 _ ?_
                show Steps p.tables e below (T6.setTop (mkF m 52 #[.val (.int p0)] [(.ref w_GROUPED)])) t
                exact k
              rw [show own_f1_0 p0 w_OCTET_STRING w_INTEGER32 w_INTEGER64 w_UNSIGNED32 w_UNSIGNED64 w_GROUPED w_ADDRESS w_TIME w_UTF8_STRING w_DIAMETER_IDENTITY w_DIAMETER_URI w_ENUMERATED w_IP_FILTER_RULE = w_GROUPED from (by rw [own_f1_0, if_neg hc1, if_neg hc10, if_neg hc19, if_neg hc28, if_neg hc37, if_pos hc46])]
              refine Owe.ret X6 Bd.notSynchronized (v := (some (.ref w_GROUPED))) (fun h => by rw [Bd.returns] at h; cases h) (fun fs hr => ?_) ⟨rfl, N0, e6⟩ (by decide) (by decide)
              show Steps p.tables e below (T6.setTop (mkF m 52 #[.val (.int p0)] [(.ref w_GROUPED)])) _
              exact retA X6 hx Bd.returns rfl rfl (hb hby own_d1_52) hr
            · refine Owe.step (T' := s₁) (g' := (mkF m 53 #[.val (.int p0)] [])) (fun t k => ?_) ?_
              · show Steps p.tables e below (s₁.setTop (mkF m 46 #[.val (.int p0)] [(.int (5 : Int32)), (.int p0)])) t
                refine XS.icmpYes X0.here hx rfl (pc0 := 46) (pc' := 53) rfl (hb hby own_d1_46) rfl (feq hc46).2 (by decide) (by decide) ?_
                show Steps p.tables e below (s₁.setTop (mkF m 53 #[.val (.int p0)] [])) t
                exact k
              refine Owe.step (T' := s₁) (g' := (mkF m 56 #[.val (.int p0)] [(.int (6 : Int32)), (.int p0)])) (fun t k => ?_) ?_
              · show Steps p.tables e below (s₁.setTop (mkF m 53 #[.val (.int p0)] [])) t
                refine XS.iloadN X0.here hx rfl (hb hby own_d1_53) rfl ?_
                show Steps p.tables e below (s₁.setTop (mkF m 54 #[.val (.int p0)] [(.int p0)])) t
                refine XS.bipush X0.here hx rfl (hb hby own_d1_54) ?_
                show Steps p.tables e below (s₁.setTop (mkF m 56 #[.val (.int p0)] [(.int (6 : Int32)), (.int p0)])) t
                exact k
              by_cases hc56 : p0 = (6 : Int32)
              · refine Owe.step (T' := s₁) (g' := (mkF m 59 #[.val (.int p0)] [])) (fun t k => ?_) ?_
                · show Steps p.tables e below (s₁.setTop (mkF m 56 #[.val (.int p0)] [(.int (6 : Int32)), (.int p0)])) t
                  refine XS.icmpNo X0.here hx rfl (hb hby own_d1_56) rfl (teq hc56).2 ?_
                  show Steps p.tables e below (s₁.setTop (mkF m 59 #[.val (.int p0)] [])) t
                  exact k
                obtain ⟨T7, X7, e7, st7⟩ := getS2 X0 hx hZ hown (host := "") (Or.inl (hw _ (List.mem_of_getElem? (i := 40) rfl))) Via.refl e0 S_ADDRESS (g := (mkF m 59 #[.val (.int p0)] [])) rfl (hb hby own_d1_59)
                refine Owe.step (T' := T7) (g' := (mkF m 62 #[.val (.int p0)] [(.ref w_ADDRESS)])) (fun t k => ?_) ?_
                · show Steps p.tables e below (s₁.setTop (mkF m 59 #[.val (.int p0)] [])) t
                  refine st7 _ ?_
                  show Steps p.tables e below (T7.setTop (mkF m 62 #[.val (.int p0)] [(.ref w_ADDRESS)])) t
                  exact k
                rw [show own_f1_0 p0 w_OCTET_STRING w_INTEGER32 w_INTEGER64 w_UNSIGNED32 w_UNSIGNED64 w_GROUPED w_ADDRESS w_TIME w_UTF8_STRING w_DIAMETER_IDENTITY w_DIAMETER_URI w_ENUMERATED w_IP_FILTER_RULE = w_ADDRESS from (by rw [own_f1_0, if_neg hc1, if_neg hc10, if_neg hc19, if_neg hc28, if_neg hc37, if_neg hc46, if_pos hc56])]
                refine Owe.ret X7 Bd.notSynchronized (v := (some (.ref w_ADDRESS))) (fun h => by rw [Bd.returns] at h; cases h) (fun fs hr => ?_) ⟨rfl, N0, e7⟩ (by decide) (by decide)
                show Steps p.tables e below (T7.setTop (mkF m 62 #[.val (.int p0)] [(.ref w_ADDRESS)])) _
                exact retA X7 hx Bd.returns rfl rfl (hb hby own_d1_62) hr
              · refine Owe.step (T' := s₁) (g' := (mkF m 63 #[.val (.int p0)] [])) (fun t k => ?_) ?_
                · show Steps p.tables e below (s₁.setTop (mkF m 56 #[.val (.int p0)] [(.int (6 : Int32)), (.int p0)])) t
                  refine XS.icmpYes X0.here hx rfl (pc0 := 56) (pc' := 63) rfl (hb hby own_d1_56) rfl (feq hc56).2 (by decide) (by decide) ?_
                  show Steps p.tables e below (s₁.setTop (mkF m 63 #[.val (.int p0)] [])) t
                  exact k
                refine Owe.step (T' := s₁) (g' := (mkF m 66 #[.val (.int p0)] [(.int (7 : Int32)), (.int p0)])) (fun t k => ?_) ?_
                · show Steps p.tables e below (s₁.setTop (mkF m 63 #[.val (.int p0)] [])) t
                  refine XS.iloadN X0.here hx rfl (hb hby own_d1_63) rfl ?_
                  show Steps p.tables e below (s₁.setTop (mkF m 64 #[.val (.int p0)] [(.int p0)])) t
                  refine XS.bipush X0.here hx rfl (hb hby own_d1_64) ?_
                  show Steps p.tables e below (s₁.setTop (mkF m 66 #[.val (.int p0)] [(.int (7 : Int32)), (.int p0)])) t
                  exact k
                by_cases hc66 : p0 = (7 : Int32)
                · refine Owe.step (T' := s₁) (g' := (mkF m 69 #[.val (.int p0)] [])) (fun t k => ?_) ?_
                  · show Steps p.tables e below (s₁.setTop (mkF m 66 #[.val (.int p0)] [(.int (7 : Int32)), (.int p0)])) t
                    refine XS.icmpNo X0.here hx rfl (hb hby own_d1_66) rfl (teq hc66).2 ?_
                    show Steps p.tables e below (s₁.setTop (mkF m 69 #[.val (.int p0)] [])) t
                    exact k
                  obtain ⟨T8, X8, e8, st8⟩ := getS2 X0 hx hZ hown (host := "") (Or.inl (hw _ (List.mem_of_getElem? (i := 24) rfl))) Via.refl e0 S_TIME (g := (mkF m 69 #[.val (.int p0)] [])) rfl (hb hby own_d1_69)
                  refine Owe.step (T' := T8) (g' := (mkF m 72 #[.val (.int p0)] [(.ref w_TIME)])) (fun t k => ?_) ?_
                  · show Steps p.tables e below (s₁.setTop (mkF m 69 #[.val (.int p0)] [])) t
                    refine st8 _ ?_
                    show Steps p.tables e below (T8.setTop (mkF m 72 #[.val (.int p0)] [(.ref w_TIME)])) t
                    exact k
                  rw [show own_f1_0 p0 w_OCTET_STRING w_INTEGER32 w_INTEGER64 w_UNSIGNED32 w_UNSIGNED64 w_GROUPED w_ADDRESS w_TIME w_UTF8_STRING w_DIAMETER_IDENTITY w_DIAMETER_URI w_ENUMERATED w_IP_FILTER_RULE = w_TIME from (by rw [own_f1_0, if_neg hc1, if_neg hc10, if_neg hc19, if_neg hc28, if_neg hc37, if_neg hc46, if_neg hc56, if_pos hc66])]
                  refine Owe.ret X8 Bd.notSynchronized (v := (some (.ref w_TIME))) (fun h => by rw [Bd.returns] at h; cases h) (fun fs hr => ?_) ⟨rfl, N0, e8⟩ (by decide) (by decide)
                  show Steps p.tables e below (T8.setTop (mkF m 72 #[.val (.int p0)] [(.ref w_TIME)])) _
                  exact retA X8 hx Bd.returns rfl rfl (hb hby own_d1_72) hr
                · refine Owe.step (T' := s₁) (g' := (mkF m 73 #[.val (.int p0)] [])) (fun t k => ?_) ?_
                  · show Steps p.tables e below (s₁.setTop (mkF m 66 #[.val (.int p0)] [(.int (7 : Int32)), (.int p0)])) t
                    refine XS.icmpYes X0.here hx rfl (pc0 := 66) (pc' := 73) rfl (hb hby own_d1_66) rfl (feq hc66).2 (by decide) (by decide) ?_
                    show Steps p.tables e below (s₁.setTop (mkF m 73 #[.val (.int p0)] [])) t
                    exact k
                  refine Owe.step (T' := s₁) (g' := (mkF m 76 #[.val (.int p0)] [(.int (8 : Int32)), (.int p0)])) (fun t k => ?_) ?_
                  · show Steps p.tables e below (s₁.setTop (mkF m 73 #[.val (.int p0)] [])) t
                    refine XS.iloadN X0.here hx rfl (hb hby own_d1_73) rfl ?_
                    show Steps p.tables e below (s₁.setTop (mkF m 74 #[.val (.int p0)] [(.int p0)])) t
                    refine XS.bipush X0.here hx rfl (hb hby own_d1_74) ?_
                    show Steps p.tables e below (s₁.setTop (mkF m 76 #[.val (.int p0)] [(.int (8 : Int32)), (.int p0)])) t
                    exact k
                  by_cases hc76 : p0 = (8 : Int32)
                  · refine Owe.step (T' := s₁) (g' := (mkF m 79 #[.val (.int p0)] [])) (fun t k => ?_) ?_
                    · show Steps p.tables e below (s₁.setTop (mkF m 76 #[.val (.int p0)] [(.int (8 : Int32)), (.int p0)])) t
                      refine XS.icmpNo X0.here hx rfl (hb hby own_d1_76) rfl (teq hc76).2 ?_
                      show Steps p.tables e below (s₁.setTop (mkF m 79 #[.val (.int p0)] [])) t
                      exact k
                    obtain ⟨T9, X9, e9, st9⟩ := getS2 X0 hx hZ hown (host := "") (Or.inl (hw _ (List.mem_of_getElem? (i := 22) rfl))) Via.refl e0 S_UTF8_STRING (g := (mkF m 79 #[.val (.int p0)] [])) rfl (hb hby own_d1_79)
                    refine Owe.step (T' := T9) (g' := (mkF m 82 #[.val (.int p0)] [(.ref w_UTF8_STRING)])) (fun t k => ?_) ?_
                    · show Steps p.tables e below (s₁.setTop (mkF m 79 #[.val (.int p0)] [])) t
                      refine st9 _ ?_
                      show Steps p.tables e below (T9.setTop (mkF m 82 #[.val (.int p0)] [(.ref w_UTF8_STRING)])) t
                      exact k
                    rw [show own_f1_0 p0 w_OCTET_STRING w_INTEGER32 w_INTEGER64 w_UNSIGNED32 w_UNSIGNED64 w_GROUPED w_ADDRESS w_TIME w_UTF8_STRING w_DIAMETER_IDENTITY w_DIAMETER_URI w_ENUMERATED w_IP_FILTER_RULE = w_UTF8_STRING from (by rw [own_f1_0, if_neg hc1, if_neg hc10, if_neg hc19, if_neg hc28, if_neg hc37, if_neg hc46, if_neg hc56, if_neg hc66, if_pos hc76])]
                    refine Owe.ret X9 Bd.notSynchronized (v := (some (.ref w_UTF8_STRING))) (fun h => by rw [Bd.returns] at h; cases h) (fun fs hr => ?_) ⟨rfl, N0, e9⟩ (by decide) (by decide)
                    show Steps p.tables e below (T9.setTop (mkF m 82 #[.val (.int p0)] [(.ref w_UTF8_STRING)])) _
                    exact retA X9 hx Bd.returns rfl rfl (hb hby own_d1_82) hr
                  · refine Owe.step (T' := s₁) (g' := (mkF m 83 #[.val (.int p0)] [])) (fun t k => ?_) ?_
                    · show Steps p.tables e below (s₁.setTop (mkF m 76 #[.val (.int p0)] [(.int (8 : Int32)), (.int p0)])) t
                      refine XS.icmpYes X0.here hx rfl (pc0 := 76) (pc' := 83) rfl (hb hby own_d1_76) rfl (feq hc76).2 (by decide) (by decide) ?_
                      show Steps p.tables e below (s₁.setTop (mkF m 83 #[.val (.int p0)] [])) t
                      exact k
                    refine Owe.step (T' := s₁) (g' := (mkF m 86 #[.val (.int p0)] [(.int (9 : Int32)), (.int p0)])) (fun t k => ?_) ?_
                    · show Steps p.tables e below (s₁.setTop (mkF m 83 #[.val (.int p0)] [])) t
                      refine XS.iloadN X0.here hx rfl (hb hby own_d1_83) rfl ?_
                      show Steps p.tables e below (s₁.setTop (mkF m 84 #[.val (.int p0)] [(.int p0)])) t
                      refine XS.bipush X0.here hx rfl (hb hby own_d1_84) ?_
                      show Steps p.tables e below (s₁.setTop (mkF m 86 #[.val (.int p0)] [(.int (9 : Int32)), (.int p0)])) t
                      exact k
                    by_cases hc86 : p0 = (9 : Int32)
                    · refine Owe.step (T' := s₁) (g' := (mkF m 89 #[.val (.int p0)] [])) (fun t k => ?_) ?_
                      · show Steps p.tables e below (s₁.setTop (mkF m 86 #[.val (.int p0)] [(.int (9 : Int32)), (.int p0)])) t
                        refine XS.icmpNo X0.here hx rfl (hb hby own_d1_86) rfl (teq hc86).2 ?_
                        show Steps p.tables e below (s₁.setTop (mkF m 89 #[.val (.int p0)] [])) t
                        exact k
                      obtain ⟨T10, X10, e10, st10⟩ := getS2 X0 hx hZ hown (host := "") (Or.inl (hw _ (List.mem_of_getElem? (i := 42) rfl))) Via.refl e0 S_DIAMETER_IDENTITY (g := (mkF m 89 #[.val (.int p0)] [])) rfl (hb hby own_d1_89)
                      refine Owe.step (T' := T10) (g' := (mkF m 92 #[.val (.int p0)] [(.ref w_DIAMETER_IDENTITY)])) (fun t k => ?_) ?_
                      · show Steps p.tables e below (s₁.setTop (mkF m 89 #[.val (.int p0)] [])) t
                        refine st10 _ ?_
                        show Steps p.tables e below (T10.setTop (mkF m 92 #[.val (.int p0)] [(.ref w_DIAMETER_IDENTITY)])) t
                        exact k
                      rw [show own_f1_0 p0 w_OCTET_STRING w_INTEGER32 w_INTEGER64 w_UNSIGNED32 w_UNSIGNED64 w_GROUPED w_ADDRESS w_TIME w_UTF8_STRING w_DIAMETER_IDENTITY w_DIAMETER_URI w_ENUMERATED w_IP_FILTER_RULE = w_DIAMETER_IDENTITY from (by rw [own_f1_0, if_neg hc1, if_neg hc10, if_neg hc19, if_neg hc28, if_neg hc37, if_neg hc46, if_neg hc56, if_neg hc66, if_neg hc76, if_pos hc86])]
                      refine Owe.ret X10 Bd.notSynchronized (v := (some (.ref w_DIAMETER_IDENTITY))) (fun h => by rw [Bd.returns] at h; cases h) (fun fs hr => ?_) ⟨rfl, N0, e10⟩ (by decide) (by decide)
                      show Steps p.tables e below (T10.setTop (mkF m 92 #[.val (.int p0)] [(.ref w_DIAMETER_IDENTITY)])) _
                      exact retA X10 hx Bd.returns rfl rfl (hb hby own_d1_92) hr
                    · refine Owe.step (T' := s₁) (g' := (mkF m 93 #[.val (.int p0)] [])) (fun t k => ?_) ?_
                      · show Steps p.tables e below (s₁.setTop (mkF m 86 #[.val (.int p0)] [(.int (9 : Int32)), (.int p0)])) t
                        refine XS.icmpYes X0.here hx rfl (pc0 := 86) (pc' := 93) rfl (hb hby own_d1_86) rfl (feq hc86).2 (by decide) (by decide) ?_
                        show Steps p.tables e below (s₁.setTop (mkF m 93 #[.val (.int p0)] [])) t
                        exact k
                      refine Owe.step (T' := s₁) (g' := (mkF m 96 #[.val (.int p0)] [(.int (10 : Int32)), (.int p0)])) (fun t k => ?_) ?_
                      · show Steps p.tables e below (s₁.setTop (mkF m 93 #[.val (.int p0)] [])) t
                        refine XS.iloadN X0.here hx rfl (hb hby own_d1_93) rfl ?_
                        show Steps p.tables e below (s₁.setTop (mkF m 94 #[.val (.int p0)] [(.int p0)])) t
                        refine XS.bipush X0.here hx rfl (hb hby own_d1_94) ?_
                        show Steps p.tables e below (s₁.setTop (mkF m 96 #[.val (.int p0)] [(.int (10 : Int32)), (.int p0)])) t
                        exact k
                      by_cases hc96 : p0 = (10 : Int32)
                      · refine Owe.step (T' := s₁) (g' := (mkF m 99 #[.val (.int p0)] [])) (fun t k => ?_) ?_
                        · show Steps p.tables e below (s₁.setTop (mkF m 96 #[.val (.int p0)] [(.int (10 : Int32)), (.int p0)])) t
                          refine XS.icmpNo X0.here hx rfl (hb hby own_d1_96) rfl (teq hc96).2 ?_
                          show Steps p.tables e below (s₁.setTop (mkF m 99 #[.val (.int p0)] [])) t
                          exact k
                        obtain ⟨T11, X11, e11, st11⟩ := getS2 X0 hx hZ hown (host := "") (Or.inl (hw _ (List.mem_of_getElem? (i := 26) rfl))) Via.refl e0 S_DIAMETER_URI (g := (mkF m 99 #[.val (.int p0)] [])) rfl (hb hby own_d1_99)
                        refine Owe.step (T' := T11) (g' := (mkF m 102 #[.val (.int p0)] [(.ref w_DIAMETER_URI)])) (fun t k => ?_) ?_
                        · show Steps p.tables e below (s₁.setTop (mkF m 99 #[.val (.int p0)] [])) t
                          refine st11 _ ?_
                          show Steps p.tables e below (T11.setTop (mkF m 102 #[.val (.int p0)] [(.ref w_DIAMETER_URI)])) t
                          exact k
                        rw [show own_f1_0 p0 w_OCTET_STRING w_INTEGER32 w_INTEGER64 w_UNSIGNED32 w_UNSIGNED64 w_GROUPED w_ADDRESS w_TIME w_UTF8_STRING w_DIAMETER_IDENTITY w_DIAMETER_URI w_ENUMERATED w_IP_FILTER_RULE = w_DIAMETER_URI from (by rw [own_f1_0, if_neg hc1, if_neg hc10, if_neg hc19, if_neg hc28, if_neg hc37, if_neg hc46, if_neg hc56, if_neg hc66, if_neg hc76, if_neg hc86, if_pos hc96])]
                        refine Owe.ret X11 Bd.notSynchronized (v := (some (.ref w_DIAMETER_URI))) (fun h => by rw [Bd.returns] at h; cases h) (fun fs hr => ?_) ⟨rfl, N0, e11⟩ (by decide) (by decide)
                        show Steps p.tables e below (T11.setTop (mkF m 102 #[.val (.int p0)] [(.ref w_DIAMETER_URI)])) _
                        exact retA X11 hx Bd.returns rfl rfl (hb hby own_d1_102) hr
                      · refine Owe.step (T' := s₁) (g' := (mkF m 103 #[.val (.int p0)] [])) (fun t k => ?_) ?_
                        · show Steps p.tables e below (s₁.setTop (mkF m 96 #[.val (.int p0)] [(.int (10 : Int32)), (.int p0)])) t
                          refine XS.icmpYes X0.here hx rfl (pc0 := 96) (pc' := 103) rfl (hb hby own_d1_96) rfl (feq hc96).2 (by decide) (by decide) ?_
                          show Steps p.tables e below (s₁.setTop (mkF m 103 #[.val (.int p0)] [])) t
                          exact k
                        refine Owe.step (T' := s₁) (g' := (mkF m 106 #[.val (.int p0)] [(.int (11 : Int32)), (.int p0)])) (fun t k => ?_) ?_
                        · show Steps p.tables e below (s₁.setTop (mkF m 103 #[.val (.int p0)] [])) t
                          refine XS.iloadN X0.here hx rfl (hb hby own_d1_103) rfl ?_
                          show Steps p.tables e below (s₁.setTop (mkF m 104 #[.val (.int p0)] [(.int p0)])) t
                          refine XS.bipush X0.here hx rfl (hb hby own_d1_104) ?_
                          show Steps p.tables e below (s₁.setTop (mkF m 106 #[.val (.int p0)] [(.int (11 : Int32)), (.int p0)])) t
                          exact k
                        by_cases hc106 : p0 = (11 : Int32)
                        · refine Owe.step (T' := s₁) (g' := (mkF m 109 #[.val (.int p0)] [])) (fun t k => ?_) ?_
                          · show Steps p.tables e below (s₁.setTop (mkF m 106 #[.val (.int p0)] [(.int (11 : Int32)), (.int p0)])) t
                            refine XS.icmpNo X0.here hx rfl (hb hby own_d1_106) rfl (teq hc106).2 ?_
                            show Steps p.tables e below (s₁.setTop (mkF m 109 #[.val (.int p0)] [])) t
                            exact k
                          obtain ⟨T12, X12, e12, st12⟩ := getS2 X0 hx hZ hown (host := "") (Or.inl (hw _ (List.mem_of_getElem? (i := 28) rfl))) Via.refl e0 S_ENUMERATED (g := (mkF m 109 #[.val (.int p0)] [])) rfl (hb hby own_d1_109)
                          refine Owe.step (T' := T12) (g' := (mkF m 112 #[.val (.int p0)] [(.ref w_ENUMERATED)])) (fun t k => ?_) ?_
                          · show Steps p.tables e below (s₁.setTop (mkF m 109 #[.val (.int p0)] [])) t
                            refine st12 _ ?_
                            show Steps p.tables e below (T12.setTop (mkF m 112 #[.val (.int p0)] [(.ref w_ENUMERATED)])) t
                            exact k
                          rw [show own_f1_0 p0 w_OCTET_STRING w_INTEGER32 w_INTEGER64 w_UNSIGNED32 w_UNSIGNED64 w_GROUPED w_ADDRESS w_TIME w_UTF8_STRING w_DIAMETER_IDENTITY w_DIAMETER_URI w_ENUMERATED w_IP_FILTER_RULE = w_ENUMERATED from (by rw [own_f1_0, if_neg hc1, if_neg hc10, if_neg hc19, if_neg hc28, if_neg hc37, if_neg hc46, if_neg hc56, if_neg hc66, if_neg hc76, if_neg hc86, if_neg hc96, if_pos hc106])]
                          refine Owe.ret X12 Bd.notSynchronized (v := (some (.ref w_ENUMERATED))) (fun h => by rw [Bd.returns] at h; cases h) (fun fs hr => ?_) ⟨rfl, N0, e12⟩ (by decide) (by decide)
                          show Steps p.tables e below (T12.setTop (mkF m 112 #[.val (.int p0)] [(.ref w_ENUMERATED)])) _
                          exact retA X12 hx Bd.returns rfl rfl (hb hby own_d1_112) hr
                        · refine Owe.step (T' := s₁) (g' := (mkF m 113 #[.val (.int p0)] [])) (fun t k => ?_) ?_
                          · show Steps p.tables e below (s₁.setTop (mkF m 106 #[.val (.int p0)] [(.int (11 : Int32)), (.int p0)])) t
                            refine XS.icmpYes X0.here hx rfl (pc0 := 106) (pc' := 113) rfl (hb hby own_d1_106) rfl (feq hc106).2 (by decide) (by decide) ?_
                            show Steps p.tables e below (s₁.setTop (mkF m 113 #[.val (.int p0)] [])) t
                            exact k
                          obtain ⟨T13, X13, e13, st13⟩ := getS2 X0 hx hZ hown (host := "") (Or.inl (hw _ (List.mem_of_getElem? (i := 32) rfl))) Via.refl e0 S_IP_FILTER_RULE (g := (mkF m 113 #[.val (.int p0)] [])) rfl (hb hby own_d1_113)
                          refine Owe.step (T' := T13) (g' := (mkF m 116 #[.val (.int p0)] [(.ref w_IP_FILTER_RULE)])) (fun t k => ?_) ?_
                          · show Steps p.tables e below (s₁.setTop (mkF m 113 #[.val (.int p0)] [])) t
                            refine st13 _ ?_
                            show Steps p.tables e below (T13.setTop (mkF m 116 #[.val (.int p0)] [(.ref w_IP_FILTER_RULE)])) t
                            exact k
                          rw [show own_f1_0 p0 w_OCTET_STRING w_INTEGER32 w_INTEGER64 w_UNSIGNED32 w_UNSIGNED64 w_GROUPED w_ADDRESS w_TIME w_UTF8_STRING w_DIAMETER_IDENTITY w_DIAMETER_URI w_ENUMERATED w_IP_FILTER_RULE = w_IP_FILTER_RULE from (by rw [own_f1_0, if_neg hc1, if_neg hc10, if_neg hc19, if_neg hc28, if_neg hc37, if_neg hc46, if_neg hc56, if_neg hc66, if_neg hc76, if_neg hc86, if_neg hc96, if_neg hc106])]
                          refine Owe.ret X13 Bd.notSynchronized (v := (some (.ref w_IP_FILTER_RULE))) (fun h => by rw [Bd.returns] at h; cases h) (fun fs hr => ?_) ⟨rfl, N0, e13⟩ (by decide) (by decide)
                          show Steps p.tables e below (T13.setTop (mkF m 116 #[.val (.int p0)] [(.ref w_IP_FILTER_RULE)])) _
                          exact retA X13 hx Bd.returns rfl rfl (hb hby own_d1_116) hr
theorem own_fldI {args : Array Value} {Z : State} {t : Term} {a : Addr} {C n d : String} {k : Int32} (ev : t.eval args Z none [] Z = some (.ref a)) (h : (Jvm.Cond.eq (Jvm.Term.field t C n d) (Jvm.Term.int k)).value args Z none Z [] = some true) : Fld Z Z.heap a C n d (.int k) := by
  obtain ⟨x, y, h1, h2, h3, -⟩ := cmp_v (Or.inl h)
  have e2 : (Jvm.Term.int k).eval args Z none [] Z = some (.int k) := Term.int_eval k
  cases h2.symm.trans e2
  have h4 : x = .int k := by
    cases x with
    | int z => simp [Cond.value, h1, e2] at h; rw [h]
    | _ => simp [Kin, Value.isRef] at h3
  exact Fld.start (by rw [← fld_at (C := C) (n := n) (dd := d) ev, h1, h4])
def own_ST (Z : State) (h : Heap) (w_OCTET_STRING w_INTEGER32 w_INTEGER64 w_UNSIGNED32 w_UNSIGNED64 w_GROUPED w_ADDRESS w_TIME w_UTF8_STRING w_DIAMETER_IDENTITY w_DIAMETER_URI w_ENUMERATED w_IP_FILTER_RULE : Addr) : Prop := Exa Z h w_OCTET_STRING "com/example/tariffwise/tariffwise/diameter/AvpType" ∧ Exa Z h w_INTEGER32 "com/example/tariffwise/tariffwise/diameter/AvpType" ∧ Exa Z h w_INTEGER64 "com/example/tariffwise/tariffwise/diameter/AvpType" ∧ Exa Z h w_UNSIGNED32 "com/example/tariffwise/tariffwise/diameter/AvpType" ∧ Exa Z h w_UNSIGNED64 "com/example/tariffwise/tariffwise/diameter/AvpType" ∧ Exa Z h w_GROUPED "com/example/tariffwise/tariffwise/diameter/AvpType" ∧ Exa Z h w_ADDRESS "com/example/tariffwise/tariffwise/diameter/AvpType" ∧ Exa Z h w_TIME "com/example/tariffwise/tariffwise/diameter/AvpType" ∧ Exa Z h w_UTF8_STRING "com/example/tariffwise/tariffwise/diameter/AvpType" ∧ Exa Z h w_DIAMETER_IDENTITY "com/example/tariffwise/tariffwise/diameter/AvpType" ∧ Exa Z h w_DIAMETER_URI "com/example/tariffwise/tariffwise/diameter/AvpType" ∧ Exa Z h w_ENUMERATED "com/example/tariffwise/tariffwise/diameter/AvpType" ∧ Exa Z h w_IP_FILTER_RULE "com/example/tariffwise/tariffwise/diameter/AvpType" ∧ Fld Z h w_OCTET_STRING "com/example/tariffwise/tariffwise/diameter/AvpType" "fixedLength" "Z" (.int (0 : Int32)) ∧ Fld Z h w_INTEGER32 "com/example/tariffwise/tariffwise/diameter/AvpType" "fixedLength" "Z" (.int (1 : Int32)) ∧ Fld Z h w_INTEGER64 "com/example/tariffwise/tariffwise/diameter/AvpType" "fixedLength" "Z" (.int (1 : Int32)) ∧ Fld Z h w_UNSIGNED32 "com/example/tariffwise/tariffwise/diameter/AvpType" "fixedLength" "Z" (.int (1 : Int32)) ∧ Fld Z h w_UNSIGNED64 "com/example/tariffwise/tariffwise/diameter/AvpType" "fixedLength" "Z" (.int (1 : Int32)) ∧ Fld Z h w_GROUPED "com/example/tariffwise/tariffwise/diameter/AvpType" "fixedLength" "Z" (.int (0 : Int32)) ∧ Fld Z h w_ADDRESS "com/example/tariffwise/tariffwise/diameter/AvpType" "fixedLength" "Z" (.int (0 : Int32)) ∧ Fld Z h w_TIME "com/example/tariffwise/tariffwise/diameter/AvpType" "fixedLength" "Z" (.int (1 : Int32)) ∧ Fld Z h w_UTF8_STRING "com/example/tariffwise/tariffwise/diameter/AvpType" "fixedLength" "Z" (.int (0 : Int32)) ∧ Fld Z h w_DIAMETER_IDENTITY "com/example/tariffwise/tariffwise/diameter/AvpType" "fixedLength" "Z" (.int (0 : Int32)) ∧ Fld Z h w_DIAMETER_URI "com/example/tariffwise/tariffwise/diameter/AvpType" "fixedLength" "Z" (.int (0 : Int32)) ∧ Fld Z h w_ENUMERATED "com/example/tariffwise/tariffwise/diameter/AvpType" "fixedLength" "Z" (.int (1 : Int32)) ∧ Fld Z h w_IP_FILTER_RULE "com/example/tariffwise/tariffwise/diameter/AvpType" "fixedLength" "Z" (.int (0 : Int32)) ∧ Fld Z h w_OCTET_STRING "com/example/tariffwise/tariffwise/diameter/AvpType" "minimumLength" "I" (.int (0 : Int32)) ∧ Fld Z h w_INTEGER32 "com/example/tariffwise/tariffwise/diameter/AvpType" "minimumLength" "I" (.int (4 : Int32)) ∧ Fld Z h w_INTEGER64 "com/example/tariffwise/tariffwise/diameter/AvpType" "minimumLength" "I" (.int (8 : Int32)) ∧ Fld Z h w_UNSIGNED32 "com/example/tariffwise/tariffwise/diameter/AvpType" "minimumLength" "I" (.int (4 : Int32)) ∧ Fld Z h w_UNSIGNED64 "com/example/tariffwise/tariffwise/diameter/AvpType" "minimumLength" "I" (.int (8 : Int32)) ∧ Fld Z h w_GROUPED "com/example/tariffwise/tariffwise/diameter/AvpType" "minimumLength" "I" (.int (0 : Int32)) ∧ Fld Z h w_ADDRESS "com/example/tariffwise/tariffwise/diameter/AvpType" "minimumLength" "I" (.int (6 : Int32)) ∧ Fld Z h w_TIME "com/example/tariffwise/tariffwise/diameter/AvpType" "minimumLength" "I" (.int (4 : Int32)) ∧ Fld Z h w_UTF8_STRING "com/example/tariffwise/tariffwise/diameter/AvpType" "minimumLength" "I" (.int (0 : Int32)) ∧ Fld Z h w_DIAMETER_IDENTITY "com/example/tariffwise/tariffwise/diameter/AvpType" "minimumLength" "I" (.int (0 : Int32)) ∧ Fld Z h w_DIAMETER_URI "com/example/tariffwise/tariffwise/diameter/AvpType" "minimumLength" "I" (.int (0 : Int32)) ∧ Fld Z h w_ENUMERATED "com/example/tariffwise/tariffwise/diameter/AvpType" "minimumLength" "I" (.int (4 : Int32)) ∧ Fld Z h w_IP_FILTER_RULE "com/example/tariffwise/tariffwise/diameter/AvpType" "minimumLength" "I" (.int (0 : Int32))
def own_fx (i : Int32) : Int32 := if i = (0 : Int32) then 0 else if i = (1 : Int32) then 1 else if i = (2 : Int32) then 1 else if i = (3 : Int32) then 1 else if i = (4 : Int32) then 1 else if i = (5 : Int32) then 0 else if i = (6 : Int32) then 0 else if i = (7 : Int32) then 1 else if i = (8 : Int32) then 0 else if i = (9 : Int32) then 0 else if i = (10 : Int32) then 0 else if i = (11 : Int32) then 1 else 0
def own_mn (i : Int32) : Int32 := if i = (0 : Int32) then 0 else if i = (1 : Int32) then 4 else if i = (2 : Int32) then 8 else if i = (3 : Int32) then 4 else if i = (4 : Int32) then 8 else if i = (5 : Int32) then 0 else if i = (6 : Int32) then 6 else if i = (7 : Int32) then 4 else if i = (8 : Int32) then 0 else if i = (9 : Int32) then 0 else if i = (10 : Int32) then 0 else if i = (11 : Int32) then 4 else 0
theorem own_exa {Z : State} {h : Heap} {w_OCTET_STRING w_INTEGER32 w_INTEGER64 w_UNSIGNED32 w_UNSIGNED64 w_GROUPED w_ADDRESS w_TIME w_UTF8_STRING w_DIAMETER_IDENTITY w_DIAMETER_URI w_ENUMERATED w_IP_FILTER_RULE : Addr} (H : own_ST Z h w_OCTET_STRING w_INTEGER32 w_INTEGER64 w_UNSIGNED32 w_UNSIGNED64 w_GROUPED w_ADDRESS w_TIME w_UTF8_STRING w_DIAMETER_IDENTITY w_DIAMETER_URI w_ENUMERATED w_IP_FILTER_RULE) (i : Int32) : Exa Z h (own_f1_0 i w_OCTET_STRING w_INTEGER32 w_INTEGER64 w_UNSIGNED32 w_UNSIGNED64 w_GROUPED w_ADDRESS w_TIME w_UTF8_STRING w_DIAMETER_IDENTITY w_DIAMETER_URI w_ENUMERATED w_IP_FILTER_RULE) "com/example/tariffwise/tariffwise/diameter/AvpType" := by
  unfold own_ST at H
  unfold own_f1_0
  by_cases h0 : i = (0 : Int32)
  · rw [if_pos h0]; exact H.1
  rw [if_neg h0]
  by_cases h1 : i = (1 : Int32)
  · rw [if_pos h1]; exact H.2.1
  rw [if_neg h1]
  by_cases h2 : i = (2 : Int32)
  · rw [if_pos h2]; exact H.2.2.1
  rw [if_neg h2]
  by_cases h3 : i = (3 : Int32)
  · rw [if_pos h3]; exact H.2.2.2.1
  rw [if_neg h3]
  by_cases h4 : i = (4 : Int32)
  · rw [if_pos h4]; exact H.2.2.2.2.1
  rw [if_neg h4]
  by_cases h5 : i = (5 : Int32)
  · rw [if_pos h5]; exact H.2.2.2.2.2.1
  rw [if_neg h5]
  by_cases h6 : i = (6 : Int32)
  · rw [if_pos h6]; exact H.2.2.2.2.2.2.1
  rw [if_neg h6]
  by_cases h7 : i = (7 : Int32)
  · rw [if_pos h7]; exact H.2.2.2.2.2.2.2.1
  rw [if_neg h7]
  by_cases h8 : i = (8 : Int32)
  · rw [if_pos h8]; exact H.2.2.2.2.2.2.2.2.1
  rw [if_neg h8]
  by_cases h9 : i = (9 : Int32)
  · rw [if_pos h9]; exact H.2.2.2.2.2.2.2.2.2.1
  rw [if_neg h9]
  by_cases h10 : i = (10 : Int32)
  · rw [if_pos h10]; exact H.2.2.2.2.2.2.2.2.2.2.1
  rw [if_neg h10]
  by_cases h11 : i = (11 : Int32)
  · rw [if_pos h11]; exact H.2.2.2.2.2.2.2.2.2.2.2.1
  rw [if_neg h11]
  exact H.2.2.2.2.2.2.2.2.2.2.2.2.1
theorem own_fld {Z : State} {h : Heap} {w_OCTET_STRING w_INTEGER32 w_INTEGER64 w_UNSIGNED32 w_UNSIGNED64 w_GROUPED w_ADDRESS w_TIME w_UTF8_STRING w_DIAMETER_IDENTITY w_DIAMETER_URI w_ENUMERATED w_IP_FILTER_RULE : Addr} (H : own_ST Z h w_OCTET_STRING w_INTEGER32 w_INTEGER64 w_UNSIGNED32 w_UNSIGNED64 w_GROUPED w_ADDRESS w_TIME w_UTF8_STRING w_DIAMETER_IDENTITY w_DIAMETER_URI w_ENUMERATED w_IP_FILTER_RULE) (i : Int32) : Fld Z h (own_f1_0 i w_OCTET_STRING w_INTEGER32 w_INTEGER64 w_UNSIGNED32 w_UNSIGNED64 w_GROUPED w_ADDRESS w_TIME w_UTF8_STRING w_DIAMETER_IDENTITY w_DIAMETER_URI w_ENUMERATED w_IP_FILTER_RULE) "com/example/tariffwise/tariffwise/diameter/AvpType" "fixedLength" "Z" (.int (own_fx i)) := by
  unfold own_ST at H
  unfold own_f1_0 own_fx
  by_cases h0 : i = (0 : Int32)
  · rw [if_pos h0, if_pos h0]; exact H.2.2.2.2.2.2.2.2.2.2.2.2.2.1
  rw [if_neg h0, if_neg h0]
  by_cases h1 : i = (1 : Int32)
  · rw [if_pos h1, if_pos h1]; exact H.2.2.2.2.2.2.2.2.2.2.2.2.2.2.1
  rw [if_neg h1, if_neg h1]
  by_cases h2 : i = (2 : Int32)
  · rw [if_pos h2, if_pos h2]; exact H.2.2.2.2.2.2.2.2.2.2.2.2.2.2.2.1
  rw [if_neg h2, if_neg h2]
  by_cases h3 : i = (3 : Int32)
  · rw [if_pos h3, if_pos h3]; exact H.2.2.2.2.2.2.2.2.2.2.2.2.2.2.2.2.1
  rw [if_neg h3, if_neg h3]
  by_cases h4 : i = (4 : Int32)
  · rw [if_pos h4, if_pos h4]; exact H.2.2.2.2.2.2.2.2.2.2.2.2.2.2.2.2.2.1
  rw [if_neg h4, if_neg h4]
  by_cases h5 : i = (5 : Int32)
  · rw [if_pos h5, if_pos h5]; exact H.2.2.2.2.2.2.2.2.2.2.2.2.2.2.2.2.2.2.1
  rw [if_neg h5, if_neg h5]
  by_cases h6 : i = (6 : Int32)
  · rw [if_pos h6, if_pos h6]; exact H.2.2.2.2.2.2.2.2.2.2.2.2.2.2.2.2.2.2.2.1
  rw [if_neg h6, if_neg h6]
  by_cases h7 : i = (7 : Int32)
  · rw [if_pos h7, if_pos h7]; exact H.2.2.2.2.2.2.2.2.2.2.2.2.2.2.2.2.2.2.2.2.1
  rw [if_neg h7, if_neg h7]
  by_cases h8 : i = (8 : Int32)
  · rw [if_pos h8, if_pos h8]; exact H.2.2.2.2.2.2.2.2.2.2.2.2.2.2.2.2.2.2.2.2.2.1
  rw [if_neg h8, if_neg h8]
  by_cases h9 : i = (9 : Int32)
  · rw [if_pos h9, if_pos h9]; exact H.2.2.2.2.2.2.2.2.2.2.2.2.2.2.2.2.2.2.2.2.2.2.1
  rw [if_neg h9, if_neg h9]
  by_cases h10 : i = (10 : Int32)
  · rw [if_pos h10, if_pos h10]; exact H.2.2.2.2.2.2.2.2.2.2.2.2.2.2.2.2.2.2.2.2.2.2.2.1
  rw [if_neg h10, if_neg h10]
  by_cases h11 : i = (11 : Int32)
  · rw [if_pos h11, if_pos h11]; exact H.2.2.2.2.2.2.2.2.2.2.2.2.2.2.2.2.2.2.2.2.2.2.2.2.1
  rw [if_neg h11, if_neg h11]
  exact H.2.2.2.2.2.2.2.2.2.2.2.2.2.2.2.2.2.2.2.2.2.2.2.2.2.1
theorem own_flm {Z : State} {h : Heap} {w_OCTET_STRING w_INTEGER32 w_INTEGER64 w_UNSIGNED32 w_UNSIGNED64 w_GROUPED w_ADDRESS w_TIME w_UTF8_STRING w_DIAMETER_IDENTITY w_DIAMETER_URI w_ENUMERATED w_IP_FILTER_RULE : Addr} (H : own_ST Z h w_OCTET_STRING w_INTEGER32 w_INTEGER64 w_UNSIGNED32 w_UNSIGNED64 w_GROUPED w_ADDRESS w_TIME w_UTF8_STRING w_DIAMETER_IDENTITY w_DIAMETER_URI w_ENUMERATED w_IP_FILTER_RULE) (i : Int32) : ¬ (own_fx i) = (0 : Int32) → Fld Z h (own_f1_0 i w_OCTET_STRING w_INTEGER32 w_INTEGER64 w_UNSIGNED32 w_UNSIGNED64 w_GROUPED w_ADDRESS w_TIME w_UTF8_STRING w_DIAMETER_IDENTITY w_DIAMETER_URI w_ENUMERATED w_IP_FILTER_RULE) "com/example/tariffwise/tariffwise/diameter/AvpType" "minimumLength" "I" (.int (own_mn i)) := by
  unfold own_ST at H
  unfold own_f1_0 own_fx own_mn
  by_cases h0 : i = (0 : Int32)
  · rw [if_pos h0, if_pos h0, if_pos h0]; exact (fun q => absurd rfl q)
  rw [if_neg h0, if_neg h0, if_neg h0]
  by_cases h1 : i = (1 : Int32)
  · rw [if_pos h1, if_pos h1, if_pos h1]; exact (fun _ => H.2.2.2.2.2.2.2.2.2.2.2.2.2.2.2.2.2.2.2.2.2.2.2.2.2.2.2.1)
  rw [if_neg h1, if_neg h1, if_neg h1]
  by_cases h2 : i = (2 : Int32)
  · rw [if_pos h2, if_pos h2, if_pos h2]; exact (fun _ => H.2.2.2.2.2.2.2.2.2.2.2.2.2.2.2.2.2.2.2.2.2.2.2.2.2.2.2.2.1)
  rw [if_neg h2, if_neg h2, if_neg h2]
  by_cases h3 : i = (3 : Int32)
  · rw [if_pos h3, if_pos h3, if_pos h3]; exact (fun _ => H.2.2.2.2.2.2.2.2.2.2.2.2.2.2.2.2.2.2.2.2.2.2.2.2.2.2.2.2.2.1)
  rw [if_neg h3, if_neg h3, if_neg h3]
  by_cases h4 : i = (4 : Int32)
  · rw [if_pos h4, if_pos h4, if_pos h4]; exact (fun _ => H.2.2.2.2.2.2.2.2.2.2.2.2.2.2.2.2.2.2.2.2.2.2.2.2.2.2.2.2.2.2.1)
  rw [if_neg h4, if_neg h4, if_neg h4]
  by_cases h5 : i = (5 : Int32)
  · rw [if_pos h5, if_pos h5, if_pos h5]; exact (fun q => absurd rfl q)
  rw [if_neg h5, if_neg h5, if_neg h5]
  by_cases h6 : i = (6 : Int32)
  · rw [if_pos h6, if_pos h6, if_pos h6]; exact (fun q => absurd rfl q)
  rw [if_neg h6, if_neg h6, if_neg h6]
  by_cases h7 : i = (7 : Int32)
  · rw [if_pos h7, if_pos h7, if_pos h7]; exact (fun _ => H.2.2.2.2.2.2.2.2.2.2.2.2.2.2.2.2.2.2.2.2.2.2.2.2.2.2.2.2.2.2.2.2.2.1)
  rw [if_neg h7, if_neg h7, if_neg h7]
  by_cases h8 : i = (8 : Int32)
  · rw [if_pos h8, if_pos h8, if_pos h8]; exact (fun q => absurd rfl q)
  rw [if_neg h8, if_neg h8, if_neg h8]
  by_cases h9 : i = (9 : Int32)
  · rw [if_pos h9, if_pos h9, if_pos h9]; exact (fun q => absurd rfl q)
  rw [if_neg h9, if_neg h9, if_neg h9]
  by_cases h10 : i = (10 : Int32)
  · rw [if_pos h10, if_pos h10, if_pos h10]; exact (fun q => absurd rfl q)
  rw [if_neg h10, if_neg h10, if_neg h10]
  by_cases h11 : i = (11 : Int32)
  · rw [if_pos h11, if_pos h11, if_pos h11]; exact (fun _ => H.2.2.2.2.2.2.2.2.2.2.2.2.2.2.2.2.2.2.2.2.2.2.2.2.2.2.2.2.2.2.2.2.2.2.2.2.2.1)
  rw [if_neg h11, if_neg h11, if_neg h11]
  exact (fun q => absurd rfl q)
theorem own_d3_0 : decode method_3_code 0 = .ok (.iload_n 0, 1) := by decide +kernel
theorem own_d3_1 : decode method_3_code 1 = .ok (.iconst 1, 1) := by decide +kernel
theorem own_d3_2 : decode method_3_code 2 = .ok (.if_icmp .eq 20, 3) := by decide +kernel
theorem own_d3_5 : decode method_3_code 5 = .ok (.iload_n 0, 1) := by decide +kernel
theorem own_d3_6 : decode method_3_code 6 = .ok (.iconst 3, 1) := by decide +kernel
theorem own_d3_7 : decode method_3_code 7 = .ok (.if_icmp .eq 15, 3) := by decide +kernel
theorem own_d3_10 : decode method_3_code 10 = .ok (.iload_n 0, 1) := by decide +kernel
theorem own_d3_11 : decode method_3_code 11 = .ok (.bipush 7, 2) := by decide +kernel
theorem own_d3_13 : decode method_3_code 13 = .ok (.if_icmp .eq 9, 3) := by decide +kernel
theorem own_d3_16 : decode method_3_code 16 = .ok (.iload_n 0, 1) := by decide +kernel
theorem own_d3_17 : decode method_3_code 17 = .ok (.bipush 11, 2) := by decide +kernel
theorem own_d3_19 : decode method_3_code 19 = .ok (.if_icmp .ne 5, 3) := by decide +kernel
theorem own_d3_22 : decode method_3_code 22 = .ok (.iconst 4, 1) := by decide +kernel
theorem own_d3_23 : decode method_3_code 23 = .ok (.ireturn, 1) := by decide +kernel
theorem own_d3_24 : decode method_3_code 24 = .ok (.iload_n 0, 1) := by decide +kernel
theorem own_d3_25 : decode method_3_code 25 = .ok (.iconst 2, 1) := by decide +kernel
theorem own_d3_26 : decode method_3_code 26 = .ok (.if_icmp .eq 8, 3) := by decide +kernel
theorem own_d3_29 : decode method_3_code 29 = .ok (.iload_n 0, 1) := by decide +kernel
theorem own_d3_30 : decode method_3_code 30 = .ok (.iconst 4, 1) := by decide +kernel
theorem own_d3_31 : decode method_3_code 31 = .ok (.if_icmp .ne 6, 3) := by decide +kernel
theorem own_d3_34 : decode method_3_code 34 = .ok (.bipush 8, 2) := by decide +kernel
theorem own_d3_36 : decode method_3_code 36 = .ok (.ireturn, 1) := by decide +kernel
theorem own_d3_37 : decode method_3_code 37 = .ok (.iconst 0, 1) := by decide +kernel
theorem own_d3_38 : decode method_3_code 38 = .ok (.ireturn, 1) := by decide +kernel
theorem own_ef3 (m : MethodId) (p0 : Int32) : entryFrame m #[(.int p0)] 1 = mkF m 0 #[.val (.int p0)] [] := by first | (simp [entryFrame, mkF, argsToLocals, Value.category]; done) | rfl
def own_f3_0 (p0 : Int32) : Int32 := (if p0 = (1 : Int32) then (4 : Int32) else (if p0 = (3 : Int32) then (4 : Int32) else (if p0 = (7 : Int32) then (4 : Int32) else (if p0 = (11 : Int32) then (4 : Int32) else (if p0 = (2 : Int32) then (8 : Int32) else (if p0 = (4 : Int32) then (8 : Int32) else (0 : Int32)))))))
set_option maxRecDepth 65536 in
set_option maxHeartbeats 40000000 in
theorem own_rm3 (l : Launch) (Z : State) (aA : Array Value) (hw : ∀ d ∈ tables_1, d.before aA Z = true) (ws : List Jvm.Cond) (p0 : Int32)  (h0 : Heap) (n0 : Nat) (Z0 : n0 ≤ h0.size) :
    MetFree l (⟨"com/example/tariffwise/tariffwise/diameter/AvpTypeFitsPinLaw", "onlyLength", "(I)I"⟩ : MethodName) (head1 (Jvm.Cond.code (⟨"com/example/tariffwise/tariffwise/diameter/AvpTypeFitsPinLaw", "onlyLength", "(I)I"⟩ : MethodName) method_3_code 1 (some .int) :: ws) ({ frames := 0, cells := 0, slots := 0, locals := 0 } : Room)) (fun a U => a = #[(.int p0)] ∧ Z.Warmed39 U.vm ∧ U.heap = h0) (fun _ _ _ _ _ => True) (fun _ U o U' => ∃ v L, o = .returned v ∧ (QP (.int (own_f3_0 p0)) h0 n0) v U'.heap L ∧ FrameEnd U o U' L ({ frames := 0, cells := 0, slots := 0, locals := 0 } : Room).cells ({ frames := 0, cells := 0, slots := 0, locals := 0 } : Room).slots) := by
  refine MetFree.of_bodySF (plainFor_of_name own_pn0) hisR ?_
  intro p e s m args below meth c s₁ Bd hml0 hP hK
  obtain ⟨rfl, hZ, hh⟩ := hP
  have hx := Bd.exec
  have hby := Bd.bytes
  have hml : c.maxLocals = 1 := hml0
  have hown : s.vm.findClass "com/example/tariffwise/tariffwise/diameter/AvpTypeFitsPinLaw" = some m.cls := findClass_of_methodNamed Bd.named
  have hnm := (name_of_methodNamed Bd.named Bd.method).1
  have X0 : Stand p l e ({ frames := 0, cells := 0, slots := 0, locals := 0 } : Room) s m #[(.int p0)] below meth c s₁ [] 0 0 := Stand.of_body Bd
  have e0 : s₁.heap = h0 := by rw [← hh, Bd.state]; rfl
  have N0 := Fr.nil n0
  refine Owe.step (T := s₁) (T' := s₁) (g' := (mkF m 0 #[.val (.int p0)] [])) (fun t k => castTop (own_ef3 m p0) k) ?_
  refine Owe.step (T' := s₁) (g' := (mkF m 2 #[.val (.int p0)] [(.int (1 : Int32)), (.int p0)])) (fun t k => ?_) ?_
  · show Steps p.tables e below (s₁.setTop (mkF m 0 #[.val (.int p0)] [])) t
    refine XS.iloadN X0.here hx rfl (hb hby own_d3_0) rfl ?_
    show Steps p.tables e below (s₁.setTop (mkF m 1 #[.val (.int p0)] [(.int p0)])) t
    refine XS.iconst X0.here hx rfl (hb hby own_d3_1) ?_
    show Steps p.tables e below (s₁.setTop (mkF m 2 #[.val (.int p0)] [(.int (1 : Int32)), (.int p0)])) t
    exact k
  by_cases hc2 : p0 = (1 : Int32)
  · refine Owe.step (T' := s₁) (g' := (mkF m 22 #[.val (.int p0)] [])) (fun t k => ?_) ?_
    · show Steps p.tables e below (s₁.setTop (mkF m 2 #[.val (.int p0)] [(.int (1 : Int32)), (.int p0)])) t
      refine XS.icmpYes X0.here hx rfl (pc0 := 2) (pc' := 22) rfl (hb hby own_d3_2) rfl (teq hc2).1 (by decide) (by decide) ?_
      show Steps p.tables e below (s₁.setTop (mkF m 22 #[.val (.int p0)] [])) t
      exact k
    rw [show own_f3_0 p0 = (4 : Int32) from (by rw [own_f3_0, if_pos hc2])]
    refine Owe.ret X0 Bd.notSynchronized (v := (some (.int (4 : Int32)))) (fun h => by rw [Bd.returns] at h; cases h) (fun fs hr => ?_) ⟨rfl, N0, e0⟩ (by decide) (by decide)
    show Steps p.tables e below (s₁.setTop (mkF m 22 #[.val (.int p0)] [])) _
    refine XS.iconst X0.here hx rfl (hb hby own_d3_22) ?_
    show Steps p.tables e below (s₁.setTop (mkF m 23 #[.val (.int p0)] [(.int (4 : Int32))])) _
    exact retI X0 hx Bd.returns (hb hby own_d3_23) hr
  · refine Owe.step (T' := s₁) (g' := (mkF m 5 #[.val (.int p0)] [])) (fun t k => ?_) ?_
    · show Steps p.tables e below (s₁.setTop (mkF m 2 #[.val (.int p0)] [(.int (1 : Int32)), (.int p0)])) t
      refine XS.icmpNo X0.here hx rfl (hb hby own_d3_2) rfl (feq hc2).1 ?_
      show Steps p.tables e below (s₁.setTop (mkF m 5 #[.val (.int p0)] [])) t
      exact k
    refine Owe.step (T' := s₁) (g' := (mkF m 7 #[.val (.int p0)] [(.int (3 : Int32)), (.int p0)])) (fun t k => ?_) ?_
    · show Steps p.tables e below (s₁.setTop (mkF m 5 #[.val (.int p0)] [])) t
      refine XS.iloadN X0.here hx rfl (hb hby own_d3_5) rfl ?_
      show Steps p.tables e below (s₁.setTop (mkF m 6 #[.val (.int p0)] [(.int p0)])) t
      refine XS.iconst X0.here hx rfl (hb hby own_d3_6) ?_
      show Steps p.tables e below (s₁.setTop (mkF m 7 #[.val (.int p0)] [(.int (3 : Int32)), (.int p0)])) t
      exact k
    by_cases hc7 : p0 = (3 : Int32)
    · refine Owe.step (T' := s₁) (g' := (mkF m 22 #[.val (.int p0)] [])) (fun t k => ?_) ?_
      · show Steps p.tables e below (s₁.setTop (mkF m 7 #[.val (.int p0)] [(.int (3 : Int32)), (.int p0)])) t
        refine XS.icmpYes X0.here hx rfl (pc0 := 7) (pc' := 22) rfl (hb hby own_d3_7) rfl (teq hc7).1 (by decide) (by decide) ?_
        show Steps p.tables e below (s₁.setTop (mkF m 22 #[.val (.int p0)] [])) t
        exact k
      rw [show own_f3_0 p0 = (4 : Int32) from (by rw [own_f3_0, if_neg hc2, if_pos hc7])]
      refine Owe.ret X0 Bd.notSynchronized (v := (some (.int (4 : Int32)))) (fun h => by rw [Bd.returns] at h; cases h) (fun fs hr => ?_) ⟨rfl, N0, e0⟩ (by decide) (by decide)
      show Steps p.tables e below (s₁.setTop (mkF m 22 #[.val (.int p0)] [])) _
      refine XS.iconst X0.here hx rfl (hb hby own_d3_22) ?_
      show Steps p.tables e below (s₁.setTop (mkF m 23 #[.val (.int p0)] [(.int (4 : Int32))])) _
      exact retI X0 hx Bd.returns (hb hby own_d3_23) hr
    · refine Owe.step (T' := s₁) (g' := (mkF m 10 #[.val (.int p0)] [])) (fun t k => ?_) ?_
      · show Steps p.tables e below (s₁.setTop (mkF m 7 #[.val (.int p0)] [(.int (3 : Int32)), (.int p0)])) t
        refine XS.icmpNo X0.here hx rfl (hb hby own_d3_7) rfl (feq hc7).1 ?_
        show Steps p.tables e below (s₁.setTop (mkF m 10 #[.val (.int p0)] [])) t
        exact k
      refine Owe.step (T' := s₁) (g' := (mkF m 13 #[.val (.int p0)] [(.int (7 : Int32)), (.int p0)])) (fun t k => ?_) ?_
      · show Steps p.tables e below (s₁.setTop (mkF m 10 #[.val (.int p0)] [])) t
        refine XS.iloadN X0.here hx rfl (hb hby own_d3_10) rfl ?_
        show Steps p.tables e below (s₁.setTop (mkF m 11 #[.val (.int p0)] [(.int p0)])) t
        refine XS.bipush X0.here hx rfl (hb hby own_d3_11) ?_
        show Steps p.tables e below (s₁.setTop (mkF m 13 #[.val (.int p0)] [(.int (7 : Int32)), (.int p0)])) t
        exact k
      by_cases hc13 : p0 = (7 : Int32)
      · refine Owe.step (T' := s₁) (g' := (mkF m 22 #[.val (.int p0)] [])) (fun t k => ?_) ?_
        · show Steps p.tables e below (s₁.setTop (mkF m 13 #[.val (.int p0)] [(.int (7 : Int32)), (.int p0)])) t
          refine XS.icmpYes X0.here hx rfl (pc0 := 13) (pc' := 22) rfl (hb hby own_d3_13) rfl (teq hc13).1 (by decide) (by decide) ?_
          show Steps p.tables e below (s₁.setTop (mkF m 22 #[.val (.int p0)] [])) t
          exact k
        rw [show own_f3_0 p0 = (4 : Int32) from (by rw [own_f3_0, if_neg hc2, if_neg hc7, if_pos hc13])]
        refine Owe.ret X0 Bd.notSynchronized (v := (some (.int (4 : Int32)))) (fun h => by rw [Bd.returns] at h; cases h) (fun fs hr => ?_) ⟨rfl, N0, e0⟩ (by decide) (by decide)
        show Steps p.tables e below (s₁.setTop (mkF m 22 #[.val (.int p0)] [])) _
        refine XS.iconst X0.here hx rfl (hb hby own_d3_22) ?_
        show Steps p.tables e below (s₁.setTop (mkF m 23 #[.val (.int p0)] [(.int (4 : Int32))])) _
        exact retI X0 hx Bd.returns (hb hby own_d3_23) hr
      · refine Owe.step (T' := s₁) (g' := (mkF m 16 #[.val (.int p0)] [])) (fun t k => ?_) ?_
        · show Steps p.tables e below (s₁.setTop (mkF m 13 #[.val (.int p0)] [(.int (7 : Int32)), (.int p0)])) t
          refine XS.icmpNo X0.here hx rfl (hb hby own_d3_13) rfl (feq hc13).1 ?_
          show Steps p.tables e below (s₁.setTop (mkF m 16 #[.val (.int p0)] [])) t
          exact k
        refine Owe.step (T' := s₁) (g' := (mkF m 19 #[.val (.int p0)] [(.int (11 : Int32)), (.int p0)])) (fun t k => ?_) ?_
        · show Steps p.tables e below (s₁.setTop (mkF m 16 #[.val (.int p0)] [])) t
          refine XS.iloadN X0.here hx rfl (hb hby own_d3_16) rfl ?_
          show Steps p.tables e below (s₁.setTop (mkF m 17 #[.val (.int p0)] [(.int p0)])) t
          refine XS.bipush X0.here hx rfl (hb hby own_d3_17) ?_
          show Steps p.tables e below (s₁.setTop (mkF m 19 #[.val (.int p0)] [(.int (11 : Int32)), (.int p0)])) t
          exact k
        by_cases hc19 : p0 = (11 : Int32)
        · refine Owe.step (T' := s₁) (g' := (mkF m 22 #[.val (.int p0)] [])) (fun t k => ?_) ?_
          · show Steps p.tables e below (s₁.setTop (mkF m 19 #[.val (.int p0)] [(.int (11 : Int32)), (.int p0)])) t
            refine XS.icmpNo X0.here hx rfl (hb hby own_d3_19) rfl (teq hc19).2 ?_
            show Steps p.tables e below (s₁.setTop (mkF m 22 #[.val (.int p0)] [])) t
            exact k
          rw [show own_f3_0 p0 = (4 : Int32) from (by rw [own_f3_0, if_neg hc2, if_neg hc7, if_neg hc13, if_pos hc19])]
          refine Owe.ret X0 Bd.notSynchronized (v := (some (.int (4 : Int32)))) (fun h => by rw [Bd.returns] at h; cases h) (fun fs hr => ?_) ⟨rfl, N0, e0⟩ (by decide) (by decide)
          show Steps p.tables e below (s₁.setTop (mkF m 22 #[.val (.int p0)] [])) _
          refine XS.iconst X0.here hx rfl (hb hby own_d3_22) ?_
          show Steps p.tables e below (s₁.setTop (mkF m 23 #[.val (.int p0)] [(.int (4 : Int32))])) _
          exact retI X0 hx Bd.returns (hb hby own_d3_23) hr
        · refine Owe.step (T' := s₁) (g' := (mkF m 24 #[.val (.int p0)] [])) (fun t k => ?_) ?_
          · show Steps p.tables e below (s₁.setTop (mkF m 19 #[.val (.int p0)] [(.int (11 : Int32)), (.int p0)])) t
            refine XS.icmpYes X0.here hx rfl (pc0 := 19) (pc' := 24) rfl (hb hby own_d3_19) rfl (feq hc19).2 (by decide) (by decide) ?_
            show Steps p.tables e below (s₁.setTop (mkF m 24 #[.val (.int p0)] [])) t
            exact k
          refine Owe.step (T' := s₁) (g' := (mkF m 26 #[.val (.int p0)] [(.int (2 : Int32)), (.int p0)])) (fun t k => ?_) ?_
          · show Steps p.tables e below (s₁.setTop (mkF m 24 #[.val (.int p0)] [])) t
            refine XS.iloadN X0.here hx rfl (hb hby own_d3_24) rfl ?_
            show Steps p.tables e below (s₁.setTop (mkF m 25 #[.val (.int p0)] [(.int p0)])) t
            refine XS.iconst X0.here hx rfl (hb hby own_d3_25) ?_
            show Steps p.tables e below (s₁.setTop (mkF m 26 #[.val (.int p0)] [(.int (2 : Int32)), (.int p0)])) t
            exact k
          by_cases hc26 : p0 = (2 : Int32)
          · refine Owe.step (T' := s₁) (g' := (mkF m 34 #[.val (.int p0)] [])) (fun t k => ?_) ?_
            · show Steps p.tables e below (s₁.setTop (mkF m 26 #[.val (.int p0)] [(.int (2 : Int32)), (.int p0)])) t
              refine XS.icmpYes X0.here hx rfl (pc0 := 26) (pc' := 34) rfl (hb hby own_d3_26) rfl (teq hc26).1 (by decide) (by decide) ?_
              show Steps p.tables e below (s₁.setTop (mkF m 34 #[.val (.int p0)] [])) t
              exact k
            rw [show own_f3_0 p0 = (8 : Int32) from (by rw [own_f3_0, if_neg hc2, if_neg hc7, if_neg hc13, if_neg hc19, if_pos hc26])]
            refine Owe.ret X0 Bd.notSynchronized (v := (some (.int (8 : Int32)))) (fun h => by rw [Bd.returns] at h; cases h) (fun fs hr => ?_) ⟨rfl, N0, e0⟩ (by decide) (by decide)
            show Steps p.tables e below (s₁.setTop (mkF m 34 #[.val (.int p0)] [])) _
            refine XS.bipush X0.here hx rfl (hb hby own_d3_34) ?_
            show Steps p.tables e below (s₁.setTop (mkF m 36 #[.val (.int p0)] [(.int (8 : Int32))])) _
            exact retI X0 hx Bd.returns (hb hby own_d3_36) hr
          · refine Owe.step (T' := s₁) (g' := (mkF m 29 #[.val (.int p0)] [])) (fun t k => ?_) ?_
            · show Steps p.tables e below (s₁.setTop (mkF m 26 #[.val (.int p0)] [(.int (2 : Int32)), (.int p0)])) t
              refine XS.icmpNo X0.here hx rfl (hb hby own_d3_26) rfl (feq hc26).1 ?_
              show Steps p.tables e below (s₁.setTop (mkF m 29 #[.val (.int p0)] [])) t
              exact k
            refine Owe.step (T' := s₁) (g' := (mkF m 31 #[.val (.int p0)] [(.int (4 : Int32)), (.int p0)])) (fun t k => ?_) ?_
            · show Steps p.tables e below (s₁.setTop (mkF m 29 #[.val (.int p0)] [])) t
              refine XS.iloadN X0.here hx rfl (hb hby own_d3_29) rfl ?_
              show Steps p.tables e below (s₁.setTop (mkF m 30 #[.val (.int p0)] [(.int p0)])) t
              refine XS.iconst X0.here hx rfl (hb hby own_d3_30) ?_
              show Steps p.tables e below (s₁.setTop (mkF m 31 #[.val (.int p0)] [(.int (4 : Int32)), (.int p0)])) t
              exact k
            by_cases hc31 : p0 = (4 : Int32)
            · refine Owe.step (T' := s₁) (g' := (mkF m 34 #[.val (.int p0)] [])) (fun t k => ?_) ?_
              · show Steps p.tables e below (s₁.setTop (mkF m 31 #[.val (.int p0)] [(.int (4 : Int32)), (.int p0)])) t
                refine XS.icmpNo X0.here hx rfl (hb hby own_d3_31) rfl (teq hc31).2 ?_
                show Steps p.tables e below (s₁.setTop (mkF m 34 #[.val (.int p0)] [])) t
                exact k
              rw [show own_f3_0 p0 = (8 : Int32) from (by rw [own_f3_0, if_neg hc2, if_neg hc7, if_neg hc13, if_neg hc19, if_neg hc26, if_pos hc31])]
              refine Owe.ret X0 Bd.notSynchronized (v := (some (.int (8 : Int32)))) (fun h => by rw [Bd.returns] at h; cases h) (fun fs hr => ?_) ⟨rfl, N0, e0⟩ (by decide) (by decide)
              show Steps p.tables e below (s₁.setTop (mkF m 34 #[.val (.int p0)] [])) _
              refine XS.bipush X0.here hx rfl (hb hby own_d3_34) ?_
              show Steps p.tables e below (s₁.setTop (mkF m 36 #[.val (.int p0)] [(.int (8 : Int32))])) _
              exact retI X0 hx Bd.returns (hb hby own_d3_36) hr
            · refine Owe.step (T' := s₁) (g' := (mkF m 37 #[.val (.int p0)] [])) (fun t k => ?_) ?_
              · show Steps p.tables e below (s₁.setTop (mkF m 31 #[.val (.int p0)] [(.int (4 : Int32)), (.int p0)])) t
                refine XS.icmpYes X0.here hx rfl (pc0 := 31) (pc' := 37) rfl (hb hby own_d3_31) rfl (feq hc31).2 (by decide) (by decide) ?_
                show Steps p.tables e below (s₁.setTop (mkF m 37 #[.val (.int p0)] [])) t
                exact k
              rw [show own_f3_0 p0 = (0 : Int32) from (by rw [own_f3_0, if_neg hc2, if_neg hc7, if_neg hc13, if_neg hc19, if_neg hc26, if_neg hc31])]
              refine Owe.ret X0 Bd.notSynchronized (v := (some (.int (0 : Int32)))) (fun h => by rw [Bd.returns] at h; cases h) (fun fs hr => ?_) ⟨rfl, N0, e0⟩ (by decide) (by decide)
              show Steps p.tables e below (s₁.setTop (mkF m 37 #[.val (.int p0)] [])) _
              refine XS.iconst X0.here hx rfl (hb hby own_d3_37) ?_
              show Steps p.tables e below (s₁.setTop (mkF m 38 #[.val (.int p0)] [(.int (0 : Int32))])) _
              exact retI X0 hx Bd.returns (hb hby own_d3_38) hr
theorem own_d2_0 : decode prog_15_method_5_code 0 = .ok (.aload_n 0, 1) := by decide +kernel
theorem own_d2_1 : decode prog_15_method_5_code 1 = .ok (.getfield 66, 3) := by decide +kernel
theorem own_d2_4 : decode prog_15_method_5_code 4 = .ok (.ifCond .eq 11, 3) := by decide +kernel
theorem own_d2_7 : decode prog_15_method_5_code 7 = .ok (.iload_n 1, 1) := by decide +kernel
theorem own_d2_8 : decode prog_15_method_5_code 8 = .ok (.aload_n 0, 1) := by decide +kernel
theorem own_d2_9 : decode prog_15_method_5_code 9 = .ok (.getfield 62, 3) := by decide +kernel
theorem own_d2_12 : decode prog_15_method_5_code 12 = .ok (.if_icmp .ne 7, 3) := by decide +kernel
theorem own_d2_15 : decode prog_15_method_5_code 15 = .ok (.iconst 1, 1) := by decide +kernel
theorem own_d2_16 : decode prog_15_method_5_code 16 = .ok (.goto 4, 3) := by decide +kernel
theorem own_d2_19 : decode prog_15_method_5_code 19 = .ok (.iconst 0, 1) := by decide +kernel
theorem own_d2_20 : decode prog_15_method_5_code 20 = .ok (.ireturn, 1) := by decide +kernel
theorem own_pn1 : plainName "com/example/tariffwise/tariffwise/diameter/AvpType" = true := by first | (simp [plainName, overriddenIn]; done) | decide +kernel
theorem own_ef2 (m : MethodId) (a0 : Addr) (p1 : Int32) : entryFrame m #[(.ref a0), (.int p1)] 2 = mkF m 0 #[.val (.ref a0), .val (.int p1)] [] := by first | (simp [entryFrame, mkF, argsToLocals, Value.category]; done) | rfl
def own_f2_0 (p1 : Int32) (c0 : Int32) (c1 : Int32) : Int32 := (if c0 = (0 : Int32) then (1 : Int32) else (if p1 = c1 then (1 : Int32) else (0 : Int32)))
set_option maxRecDepth 65536 in
set_option maxHeartbeats 40000000 in
theorem own_rm2 (l : Launch) (Z : State) (aA : Array Value) (hw : ∀ d ∈ tables_1, d.before aA Z = true) (ws : List Jvm.Cond) (a0 : Addr) (p1 : Int32) (c0 : Int32) (c1 : Int32) (h0 : Heap) (n0 : Nat) (Z0 : n0 ≤ h0.size) (F0 : Fld Z h0 a0 "com/example/tariffwise/tariffwise/diameter/AvpType" "fixedLength" "Z" (.int c0)) (FM : ¬ c0 = (0 : Int32) → Fld Z h0 a0 "com/example/tariffwise/tariffwise/diameter/AvpType" "minimumLength" "I" (.int c1)) :
    MetFree l (⟨"com/example/tariffwise/tariffwise/diameter/AvpType", "fits", "(I)Z"⟩ : MethodName) (head1 (Jvm.Cond.code (⟨"com/example/tariffwise/tariffwise/diameter/AvpType", "fits", "(I)Z"⟩ : MethodName) prog_15_method_5_code 2 (some .boolean) :: ws) ({ frames := 0, cells := 0, slots := 0, locals := 0 } : Room)) (fun a U => a = #[(.ref a0), (.int p1)] ∧ Z.Warmed39 U.vm ∧ U.heap = h0) (fun _ _ _ _ _ => True) (fun _ U o U' => ∃ v L, o = .returned v ∧ (QP (.int (own_f2_0 p1 c0 c1)) h0 n0) v U'.heap L ∧ FrameEnd U o U' L ({ frames := 0, cells := 0, slots := 0, locals := 0 } : Room).cells ({ frames := 0, cells := 0, slots := 0, locals := 0 } : Room).slots) := by
  refine MetFree.of_bodySF (plainFor_of_name own_pn1) hisR ?_
  intro p e s m args below meth c s₁ Bd hml0 hP hK
  obtain ⟨rfl, hZ, hh⟩ := hP
  have hx := Bd.exec
  have hby := Bd.bytes
  have hml : c.maxLocals = 2 := hml0
  have hown : s.vm.findClass "com/example/tariffwise/tariffwise/diameter/AvpType" = some m.cls := findClass_of_methodNamed Bd.named
  have hnm := (name_of_methodNamed Bd.named Bd.method).1
  have X0 : Stand p l e ({ frames := 0, cells := 0, slots := 0, locals := 0 } : Room) s m #[(.ref a0), (.int p1)] below meth c s₁ [] 0 0 := Stand.of_body Bd
  have e0 : s₁.heap = h0 := by rw [← hh, Bd.state]; rfl
  have N0 := Fr.nil n0
  refine Owe.step (T := s₁) (T' := s₁) (g' := (mkF m 0 #[.val (.ref a0), .val (.int p1)] [])) (fun t k => castTop (own_ef2 m a0 p1) k) ?_
  obtain ⟨T1, X1, e1, st1⟩ := getF X0 hx hZ hown (host := "") (Or.inl (hw _ (List.mem_of_getElem? (i := 13) rfl))) Via.refl e0 F0 (g := (mkF m 1 #[.val (.ref a0), .val (.int p1)] [(.ref a0)])) rfl rfl (hb hby own_d2_1)
  refine Owe.step (T' := T1) (g' := (mkF m 4 #[.val (.ref a0), .val (.int p1)] [(.int c0)])) (fun t k => ?_) ?_
  · show Steps p.tables e below (s₁.setTop (mkF m 0 #[.val (.ref a0), .val (.int p1)] [])) t
    refine XS.aloadN X0.here hx rfl (hb hby own_d2_0) rfl rfl ?_
    show Steps p.tables e below (s₁.setTop (mkF m 1 #[.val (.ref a0), .val (.int p1)] [(.ref a0)])) t
    refine st1 _ ?_
    show Steps p.tables e below (T1.setTop (mkF m 4 #[.val (.ref a0), .val (.int p1)] [(.int c0)])) t
    exact k
  by_cases hc4 : c0 = (0 : Int32)
  · refine Owe.step (T' := T1) (g' := (mkF m 15 #[.val (.ref a0), .val (.int p1)] [])) (fun t k => ?_) ?_
    · show Steps p.tables e below (T1.setTop (mkF m 4 #[.val (.ref a0), .val (.int p1)] [(.int c0)])) t
      refine XS.ifYes X1.here hx rfl (pc0 := 4) (pc' := 15) rfl (hb hby own_d2_4) rfl ((if0 _ _).trans (teq hc4).1) (by decide) (by decide) ?_
      show Steps p.tables e below (T1.setTop (mkF m 15 #[.val (.ref a0), .val (.int p1)] [])) t
      exact k
    rw [show own_f2_0 p1 c0 c1 = (1 : Int32) from (by rw [own_f2_0, if_pos hc4])]
    refine Owe.ret X1 Bd.notSynchronized (v := (some (.int (1 : Int32)))) (fun h => by rw [Bd.returns] at h; cases h) (fun fs hr => ?_) ⟨rfl, N0, e1⟩ (by decide) (by decide)
    show Steps p.tables e below (T1.setTop (mkF m 15 #[.val (.ref a0), .val (.int p1)] [])) _
    refine XS.iconst X1.here hx rfl (hb hby own_d2_15) ?_
    show Steps p.tables e below (T1.setTop (mkF m 16 #[.val (.ref a0), .val (.int p1)] [(.int (1 : Int32))])) _
    refine XS.goto X1.here hx rfl (pc0 := 16) (pc' := 20) rfl (hb hby own_d2_16) (by decide) (by decide) ?_
    show Steps p.tables e below (T1.setTop (mkF m 20 #[.val (.ref a0), .val (.int p1)] [(.int (1 : Int32))])) _
    exact retN X1 hx (t := .boolean) Bd.returns (by simp) (hb hby own_d2_20) hr
  · refine Owe.step (T' := T1) (g' := (mkF m 7 #[.val (.ref a0), .val (.int p1)] [])) (fun t k => ?_) ?_
    · show Steps p.tables e below (T1.setTop (mkF m 4 #[.val (.ref a0), .val (.int p1)] [(.int c0)])) t
      refine XS.ifNo X1.here hx rfl (hb hby own_d2_4) rfl ((if0 _ _).trans (feq hc4).1) ?_
      show Steps p.tables e below (T1.setTop (mkF m 7 #[.val (.ref a0), .val (.int p1)] [])) t
      exact k
    obtain ⟨T2, X2, e2, st2⟩ := getF X1 hx hZ hown (host := "") (Or.inl (hw _ (List.mem_of_getElem? (i := 20) rfl))) Via.refl e1 (FM hc4) (g := (mkF m 9 #[.val (.ref a0), .val (.int p1)] [(.ref a0), (.int p1)])) rfl rfl (hb hby own_d2_9)
    refine Owe.step (T' := T2) (g' := (mkF m 12 #[.val (.ref a0), .val (.int p1)] [(.int c1), (.int p1)])) (fun t k => ?_) ?_
    · show Steps p.tables e below (T1.setTop (mkF m 7 #[.val (.ref a0), .val (.int p1)] [])) t
      refine XS.iloadN X1.here hx rfl (hb hby own_d2_7) rfl ?_
      show Steps p.tables e below (T1.setTop (mkF m 8 #[.val (.ref a0), .val (.int p1)] [(.int p1)])) t
      refine XS.aloadN X1.here hx rfl (hb hby own_d2_8) rfl rfl ?_
      show Steps p.tables e below (T1.setTop (mkF m 9 #[.val (.ref a0), .val (.int p1)] [(.ref a0), (.int p1)])) t
      refine st2 _ ?_
      show Steps p.tables e below (T2.setTop (mkF m 12 #[.val (.ref a0), .val (.int p1)] [(.int c1), (.int p1)])) t
      exact k
    by_cases hc12 : p1 = c1
    · refine Owe.step (T' := T2) (g' := (mkF m 15 #[.val (.ref a0), .val (.int p1)] [])) (fun t k => ?_) ?_
      · show Steps p.tables e below (T2.setTop (mkF m 12 #[.val (.ref a0), .val (.int p1)] [(.int c1), (.int p1)])) t
        refine XS.icmpNo X2.here hx rfl (hb hby own_d2_12) rfl (teq hc12).2 ?_
        show Steps p.tables e below (T2.setTop (mkF m 15 #[.val (.ref a0), .val (.int p1)] [])) t
        exact k
      rw [show own_f2_0 p1 c0 c1 = (1 : Int32) from (by rw [own_f2_0, if_neg hc4, if_pos hc12])]
      refine Owe.ret X2 Bd.notSynchronized (v := (some (.int (1 : Int32)))) (fun h => by rw [Bd.returns] at h; cases h) (fun fs hr => ?_) ⟨rfl, N0, e2⟩ (by decide) (by decide)
      show Steps p.tables e below (T2.setTop (mkF m 15 #[.val (.ref a0), .val (.int p1)] [])) _
      refine XS.iconst X2.here hx rfl (hb hby own_d2_15) ?_
      show Steps p.tables e below (T2.setTop (mkF m 16 #[.val (.ref a0), .val (.int p1)] [(.int (1 : Int32))])) _
      refine XS.goto X2.here hx rfl (pc0 := 16) (pc' := 20) rfl (hb hby own_d2_16) (by decide) (by decide) ?_
      show Steps p.tables e below (T2.setTop (mkF m 20 #[.val (.ref a0), .val (.int p1)] [(.int (1 : Int32))])) _
      exact retN X2 hx (t := .boolean) Bd.returns (by simp) (hb hby own_d2_20) hr
    · refine Owe.step (T' := T2) (g' := (mkF m 19 #[.val (.ref a0), .val (.int p1)] [])) (fun t k => ?_) ?_
      · show Steps p.tables e below (T2.setTop (mkF m 12 #[.val (.ref a0), .val (.int p1)] [(.int c1), (.int p1)])) t
        refine XS.icmpYes X2.here hx rfl (pc0 := 12) (pc' := 19) rfl (hb hby own_d2_12) rfl (feq hc12).2 (by decide) (by decide) ?_
        show Steps p.tables e below (T2.setTop (mkF m 19 #[.val (.ref a0), .val (.int p1)] [])) t
        exact k
      rw [show own_f2_0 p1 c0 c1 = (0 : Int32) from (by rw [own_f2_0, if_neg hc4, if_neg hc12])]
      refine Owe.ret X2 Bd.notSynchronized (v := (some (.int (0 : Int32)))) (fun h => by rw [Bd.returns] at h; cases h) (fun fs hr => ?_) ⟨rfl, N0, e2⟩ (by decide) (by decide)
      show Steps p.tables e below (T2.setTop (mkF m 19 #[.val (.ref a0), .val (.int p1)] [])) _
      refine XS.iconst X2.here hx rfl (hb hby own_d2_19) ?_
      show Steps p.tables e below (T2.setTop (mkF m 20 #[.val (.ref a0), .val (.int p1)] [(.int (0 : Int32))])) _
      exact retN X2 hx (t := .boolean) Bd.returns (by simp) (hb hby own_d2_20) hr
theorem own_pd0 : parseMethodDescriptor "(I)Lcom/example/tariffwise/tariffwise/diameter/AvpType;" = some ⟨[.int], some (.object "com/example/tariffwise/tariffwise/diameter/AvpType")⟩ := by decide +kernel
theorem own_pd1 : parseMethodDescriptor "(I)Z" = some ⟨[.int], some .boolean⟩ := by decide +kernel
theorem own_pd2 : parseMethodDescriptor "(I)I" = some ⟨[.int], some .int⟩ := by decide +kernel
theorem own_ef0 (m : MethodId) (p0 : Int32) (p1 : Int32) (p2 : Int32) : entryFrame m #[(.int p0), (.int p1), (.int p2)] maxLocals = mkF m 0 #[.val (.int p0), .val (.int p1), .val (.int p2), .unset, .unset, .unset, .unset, .unset, .unset] [] := by first | (simp [entryFrame, mkF, argsToLocals, Value.category, maxLocals]; done) | rfl
def own_f0_72 (p0 : Int32) (v72_8 : Int32) (t24_0 : Int32) : Int32 := (if (own_f2_0 t24_0 (own_fx ((p0 &&& (2147483647 : Int32)) - ((p0 &&& (2147483647 : Int32)) / (13 : Int32)) * (13 : Int32))) (own_mn ((p0 &&& (2147483647 : Int32)) - ((p0 &&& (2147483647 : Int32)) / (13 : Int32)) * (13 : Int32)))) = v72_8 then (1 : Int32) else (0 : Int32))
def own_f0_70 (p0 : Int32) (t70_0 : Int32) (t24_0 : Int32) : Int32 := (own_f0_72 p0 t70_0 t24_0)
def own_f0_24 (p0 : Int32) (t24_0 : Int32) : Int32 := (if (own_f3_0 ((p0 &&& (2147483647 : Int32)) - ((p0 &&& (2147483647 : Int32)) / (13 : Int32)) * (13 : Int32))) = (0 : Int32) then (own_f0_72 p0 (1 : Int32) t24_0) else (if t24_0 = (own_f3_0 ((p0 &&& (2147483647 : Int32)) - ((p0 &&& (2147483647 : Int32)) / (13 : Int32)) * (13 : Int32))) then (own_f0_70 p0 (1 : Int32) t24_0) else (own_f0_70 p0 (0 : Int32) t24_0)))
def own_f0_0 (p0 : Int32) (p1 : Int32) (p2 : Int32) : Int32 := (if (p2 &&& (1 : Int32)) = (0 : Int32) then (own_f0_24 p0 p1) else (own_f0_24 p0 ((p1 &&& (15 : Int32)) - (2 : Int32))))
theorem own_i13 (x : Int32) : 0 ≤ ((x &&& (2147483647 : Int32)) - ((x &&& (2147483647 : Int32)) / (13 : Int32)) * (13 : Int32)).toInt ∧ ((x &&& (2147483647 : Int32)) - ((x &&& (2147483647 : Int32)) / (13 : Int32)) * (13 : Int32)).toInt < 13 := by
  have h := c_mask x 2147483647 31 (by decide) (by decide)
  rw [own_irem]
  have r := c_irem (x &&& (2147483647 : Int32)) 13 13 (by decide)
  omega
theorem own_tab {i : Int32} (h : 0 ≤ i.toInt ∧ i.toInt < 13) : (own_fx i = 0 ∧ own_f3_0 i = 0) ∨ (¬ own_fx i = 0 ∧ ¬ own_f3_0 i = 0 ∧ own_mn i = own_f3_0 i) := by
  have c : i = 0 ∨ i = 1 ∨ i = 2 ∨ i = 3 ∨ i = 4 ∨ i = 5 ∨ i = 6 ∨ i = 7 ∨ i = 8 ∨ i = 9 ∨ i = 10 ∨ i = 11 ∨ i = 12 := by
    simp only [← Int32.toInt_inj, Int32.reduceToInt]
    omega
  rcases c with rfl | rfl | rfl | rfl | rfl | rfl | rfl | rfl | rfl | rfl | rfl | rfl | rfl <;> decide
theorem own_24 (p0 t : Int32) : own_f0_24 p0 t = 1 := by
  unfold own_f0_24 own_f0_70 own_f0_72 own_f2_0
  rcases own_tab (own_i13 p0) with ⟨e1, e2⟩ | ⟨e1, e2, e3⟩
  · rw [if_pos e2, if_pos e1, if_pos rfl]
  · rw [if_neg e2, if_neg e1, e3]
    by_cases h : t = own_f3_0 ((p0 &&& (2147483647 : Int32)) - ((p0 &&& (2147483647 : Int32)) / (13 : Int32)) * (13 : Int32))
    · rw [if_pos h, if_pos h, if_pos rfl]
    · rw [if_neg h, if_neg h, if_pos rfl]
theorem own_law (p0 p1 p2 : Int32) : own_f0_0 p0 p1 p2 = 1 := by
  unfold own_f0_0
  split <;> exact own_24 _ _
set_option maxRecDepth 65536 in
set_option maxHeartbeats 40000000 in
theorem own_rm0 (l : Launch) (Z : State) (aA : Array Value) (hw : ∀ d ∈ tables_1, d.before aA Z = true) (ws : List Jvm.Cond) (p0 : Int32) (p1 : Int32) (p2 : Int32) (w_OCTET_STRING : Addr) (w_INTEGER32 : Addr) (w_INTEGER64 : Addr) (w_UNSIGNED32 : Addr) (w_UNSIGNED64 : Addr) (w_GROUPED : Addr) (w_ADDRESS : Addr) (w_TIME : Addr) (w_UTF8_STRING : Addr) (w_DIAMETER_IDENTITY : Addr) (w_DIAMETER_URI : Addr) (w_ENUMERATED : Addr) (w_IP_FILTER_RULE : Addr) (h0 : Heap) (n0 : Nat) (Z0 : n0 ≤ h0.size) (S_OCTET_STRING : Sta Z h0 "com/example/tariffwise/tariffwise/diameter/AvpType" "OCTET_STRING" "Lcom/example/tariffwise/tariffwise/diameter/AvpType;" (.ref w_OCTET_STRING)) (S_INTEGER32 : Sta Z h0 "com/example/tariffwise/tariffwise/diameter/AvpType" "INTEGER32" "Lcom/example/tariffwise/tariffwise/diameter/AvpType;" (.ref w_INTEGER32)) (S_INTEGER64 : Sta Z h0 "com/example/tariffwise/tariffwise/diameter/AvpType" "INTEGER64" "Lcom/example/tariffwise/tariffwise/diameter/AvpType;" (.ref w_INTEGER64)) (S_UNSIGNED32 : Sta Z h0 "com/example/tariffwise/tariffwise/diameter/AvpType" "UNSIGNED32" "Lcom/example/tariffwise/tariffwise/diameter/AvpType;" (.ref w_UNSIGNED32)) (S_UNSIGNED64 : Sta Z h0 "com/example/tariffwise/tariffwise/diameter/AvpType" "UNSIGNED64" "Lcom/example/tariffwise/tariffwise/diameter/AvpType;" (.ref w_UNSIGNED64)) (S_GROUPED : Sta Z h0 "com/example/tariffwise/tariffwise/diameter/AvpType" "GROUPED" "Lcom/example/tariffwise/tariffwise/diameter/AvpType;" (.ref w_GROUPED)) (S_ADDRESS : Sta Z h0 "com/example/tariffwise/tariffwise/diameter/AvpType" "ADDRESS" "Lcom/example/tariffwise/tariffwise/diameter/AvpType;" (.ref w_ADDRESS)) (S_TIME : Sta Z h0 "com/example/tariffwise/tariffwise/diameter/AvpType" "TIME" "Lcom/example/tariffwise/tariffwise/diameter/AvpType;" (.ref w_TIME)) (S_UTF8_STRING : Sta Z h0 "com/example/tariffwise/tariffwise/diameter/AvpType" "UTF8_STRING" "Lcom/example/tariffwise/tariffwise/diameter/AvpType;" (.ref w_UTF8_STRING)) (S_DIAMETER_IDENTITY : Sta Z h0 "com/example/tariffwise/tariffwise/diameter/AvpType" "DIAMETER_IDENTITY" "Lcom/example/tariffwise/tariffwise/diameter/AvpType;" (.ref w_DIAMETER_IDENTITY)) (S_DIAMETER_URI : Sta Z h0 "com/example/tariffwise/tariffwise/diameter/AvpType" "DIAMETER_URI" "Lcom/example/tariffwise/tariffwise/diameter/AvpType;" (.ref w_DIAMETER_URI)) (S_ENUMERATED : Sta Z h0 "com/example/tariffwise/tariffwise/diameter/AvpType" "ENUMERATED" "Lcom/example/tariffwise/tariffwise/diameter/AvpType;" (.ref w_ENUMERATED)) (S_IP_FILTER_RULE : Sta Z h0 "com/example/tariffwise/tariffwise/diameter/AvpType" "IP_FILTER_RULE" "Lcom/example/tariffwise/tariffwise/diameter/AvpType;" (.ref w_IP_FILTER_RULE)) (HS : own_ST Z h0 w_OCTET_STRING w_INTEGER32 w_INTEGER64 w_UNSIGNED32 w_UNSIGNED64 w_GROUPED w_ADDRESS w_TIME w_UTF8_STRING w_DIAMETER_IDENTITY w_DIAMETER_URI w_ENUMERATED w_IP_FILTER_RULE) :
    MetFree l x (head1 (Jvm.Cond.code x code maxLocals ret :: ws) room_1) (fun a U => a = #[(.int p0), (.int p1), (.int p2)] ∧ Z.Warmed39 U.vm ∧ U.heap = h0) (fun _ _ _ _ _ => True) (fun _ U o U' => ∃ v L, o = .returned v ∧ (QL (.int ((1 : Int32))) n0) v U'.heap L ∧ FrameEnd U o U' L 0 0) := by
  refine MetFree.of_bodySF (plainFor_of_name own_pn0) hisR ?_
  intro p e s m args below meth c s₁ Bd hml0 hP hK
  obtain ⟨rfl, hZ, hh⟩ := hP
  have hx := Bd.exec
  have hby := Bd.bytes
  have hml : c.maxLocals = 9 := hml0
  have hown : s.vm.findClass "com/example/tariffwise/tariffwise/diameter/AvpTypeFitsPinLaw" = some m.cls := findClass_of_methodNamed Bd.named
  have hnm := (name_of_methodNamed Bd.named Bd.method).1
  have X0 : Stand p l e room_1 s m #[(.int p0), (.int p1), (.int p2)] below meth c s₁ [] 0 0 := Stand.of_body Bd
  have e0 : s₁.heap = h0 := by rw [← hh, Bd.state]; rfl
  have N0 := Fr.nil n0
  refine Owe.step (T := s₁) (T' := s₁) (g' := (mkF m 0 #[.val (.int p0), .val (.int p1), .val (.int p2), .unset, .unset, .unset, .unset, .unset, .unset] [])) (fun t k => castTop (own_ef0 m p0 p1 p2) k) ?_
  refine Owe.step (T' := s₁) (g' := (mkF m 11 #[.val (.int p0), .val (.int p1), .val (.int p2), .val (.int ((p0 &&& (2147483647 : Int32)) - ((p0 &&& (2147483647 : Int32)) / (13 : Int32)) * (13 : Int32))), .unset, .unset, .unset, .unset, .unset] [(.int (p2 &&& (1 : Int32)))])) (fun t k => ?_) ?_
  · show Steps p.tables e below (s₁.setTop (mkF m 0 #[.val (.int p0), .val (.int p1), .val (.int p2), .unset, .unset, .unset, .unset, .unset, .unset] [])) t
    refine XS.iloadN X0.here hx rfl (hb hby at_0) rfl ?_
    show Steps p.tables e below (s₁.setTop (mkF m 1 #[.val (.int p0), .val (.int p1), .val (.int p2), .unset, .unset, .unset, .unset, .unset, .unset] [(.int p0)])) t
    refine X0.ldcInt hx hown (mvT hZ (hw _ (List.mem_of_getElem? (i := 0) rfl))) (g := (mkF m 1 #[.val (.int p0), .val (.int p1), .val (.int p2), .unset, .unset, .unset, .unset, .unset, .unset] [(.int p0)])) rfl (hb hby at_1) _ ?_
    show Steps p.tables e below (s₁.setTop (mkF m 3 #[.val (.int p0), .val (.int p1), .val (.int p2), .unset, .unset, .unset, .unset, .unset, .unset] [(.int (2147483647 : Int32)), (.int p0)])) t
    refine XS.iand X0.here hx rfl (hb hby at_3) rfl ?_
    show Steps p.tables e below (s₁.setTop (mkF m 4 #[.val (.int p0), .val (.int p1), .val (.int p2), .unset, .unset, .unset, .unset, .unset, .unset] [(.int (p0 &&& (2147483647 : Int32)))])) t
    refine XS.bipush X0.here hx rfl (hb hby at_4) ?_
    show Steps p.tables e below (s₁.setTop (mkF m 6 #[.val (.int p0), .val (.int p1), .val (.int p2), .unset, .unset, .unset, .unset, .unset, .unset] [(.int (13 : Int32)), (.int (p0 &&& (2147483647 : Int32)))])) t
    refine XS.irem X0.here hx rfl (hb hby at_6) rfl (by decide) ?_
    show Steps p.tables e below (s₁.setTop (mkF m 7 #[.val (.int p0), .val (.int p1), .val (.int p2), .unset, .unset, .unset, .unset, .unset, .unset] [(.int ((p0 &&& (2147483647 : Int32)) - ((p0 &&& (2147483647 : Int32)) / (13 : Int32)) * (13 : Int32)))])) t
    refine XS.istoreN X0.here hx rfl (hb hby at_7) rfl (l' := #[.val (.int p0), .val (.int p1), .val (.int p2), .val (.int ((p0 &&& (2147483647 : Int32)) - ((p0 &&& (2147483647 : Int32)) / (13 : Int32)) * (13 : Int32))), .unset, .unset, .unset, .unset, .unset]) rfl ?_
    show Steps p.tables e below (s₁.setTop (mkF m 8 #[.val (.int p0), .val (.int p1), .val (.int p2), .val (.int ((p0 &&& (2147483647 : Int32)) - ((p0 &&& (2147483647 : Int32)) / (13 : Int32)) * (13 : Int32))), .unset, .unset, .unset, .unset, .unset] [])) t
    refine XS.iloadN X0.here hx rfl (hb hby at_8) rfl ?_
    show Steps p.tables e below (s₁.setTop (mkF m 9 #[.val (.int p0), .val (.int p1), .val (.int p2), .val (.int ((p0 &&& (2147483647 : Int32)) - ((p0 &&& (2147483647 : Int32)) / (13 : Int32)) * (13 : Int32))), .unset, .unset, .unset, .unset, .unset] [(.int p2)])) t
    refine XS.iconst X0.here hx rfl (hb hby at_9) ?_
    show Steps p.tables e below (s₁.setTop (mkF m 10 #[.val (.int p0), .val (.int p1), .val (.int p2), .val (.int ((p0 &&& (2147483647 : Int32)) - ((p0 &&& (2147483647 : Int32)) / (13 : Int32)) * (13 : Int32))), .unset, .unset, .unset, .unset, .unset] [(.int (1 : Int32)), (.int p2)])) t
    refine XS.iand X0.here hx rfl (hb hby at_10) rfl ?_
    show Steps p.tables e below (s₁.setTop (mkF m 11 #[.val (.int p0), .val (.int p1), .val (.int p2), .val (.int ((p0 &&& (2147483647 : Int32)) - ((p0 &&& (2147483647 : Int32)) / (13 : Int32)) * (13 : Int32))), .unset, .unset, .unset, .unset, .unset] [(.int (p2 &&& (1 : Int32)))])) t
    exact k
  have j24 : ∀ (T : State) (Lc : List Loc) (X : Stand p l e room_1 s m #[(.int p0), (.int p1), (.int p2)] below meth c T Lc 0 0) (eT : T.heap = h0) (N : Fr n0 Lc) (t24_0 : Int32), Owe p e below s 0 0 (QL (.int (own_f0_24 p0 t24_0)) n0) T (mkF m 24 #[.val (.int p0), .val (.int p1), .val (.int p2), .val (.int ((p0 &&& (2147483647 : Int32)) - ((p0 &&& (2147483647 : Int32)) / (13 : Int32)) * (13 : Int32))), .unset, .unset, .unset, .unset, .unset] [(.int t24_0)]) := by
    intro T24j Lc24j X24j e24j N24j t24_0
    obtain ⟨_, _, ⟨T1, L1, k1, n1⟩, -, X1, ⟨Lc1, hQ1, l1, y1, z1⟩, st1⟩ := Jvm.LawKit.callS X24j hx (y := (⟨"com/example/tariffwise/tariffwise/diameter/AvpTypeFitsPinLaw", "pick", "(I)Lcom/example/tariffwise/tariffwise/diameter/AvpType;"⟩ : MethodName)) hown (mvT hZ (hw _ (List.mem_of_getElem? (i := 1) rfl))) (mvT hZ (hw _ (List.mem_of_getElem? (i := 2) rfl))) (mvT hZ (hw _ (List.mem_of_getElem? (i := 3) rfl))) (mvT hZ (hw _ (List.mem_of_getElem? (i := 4) rfl))) (by decide) (backOf (W := 0) (own_rm1 l Z aA hw [] ((p0 &&& (2147483647 : Int32)) - ((p0 &&& (2147483647 : Int32)) / (13 : Int32)) * (13 : Int32)) w_OCTET_STRING w_INTEGER32 w_INTEGER64 w_UNSIGNED32 w_UNSIGNED64 w_GROUPED w_ADDRESS w_TIME w_UTF8_STRING w_DIAMETER_IDENTITY w_DIAMETER_URI w_ENUMERATED w_IP_FILTER_RULE h0 n0 Z0 S_OCTET_STRING S_INTEGER32 S_INTEGER64 S_UNSIGNED32 S_UNSIGNED64 S_GROUPED S_ADDRESS S_TIME S_UTF8_STRING S_DIAMETER_IDENTITY S_DIAMETER_URI S_ENUMERATED S_IP_FILTER_RULE) hZ (hw _ (List.mem_of_getElem? (i := 4) rfl)) (hw _ (List.mem_of_getElem? (i := 3) rfl)) (by decide) (by decide)) (g := (mkF m 27 #[.val (.int p0), .val (.int p1), .val (.int p2), .val (.int ((p0 &&& (2147483647 : Int32)) - ((p0 &&& (2147483647 : Int32)) / (13 : Int32)) * (13 : Int32))), .val (.int t24_0), .unset, .unset, .unset, .unset] [(.int ((p0 &&& (2147483647 : Int32)) - ((p0 &&& (2147483647 : Int32)) / (13 : Int32)) * (13 : Int32)))])) rfl (by rw [hml]; rfl) (argsL := [(.int ((p0 &&& (2147483647 : Int32)) - ((p0 &&& (2147483647 : Int32)) / (13 : Int32)) * (13 : Int32)))]) (rest := []) (lenOf own_pd0 rfl) rfl (by show 2 * 0 + _ ≤ _; exact Nat.le_of_eq rfl) (hb hby at_27) (fun _ _ => ⟨rfl, e24j, (by decide : 0 + 0 ≤ _), (by decide : 0 + 0 ≤ _)⟩)
    dsimp only [Pt.U, Pt.locs, Pt.cells, Pt.slots] at X1 l1 y1 z1 st1 hQ1
    subst y1 z1
    obtain ⟨rfl, N1q, e1⟩ := hQ1
    have N1 : Fr n0 L1 := by rw [l1]; exact Fr.app N24j N1q
    obtain ⟨cq2, kq2, q2a, q2b, q2c⟩ := isOf hZ e1 (own_exa HS ((p0 &&& (2147483647 : Int32)) - ((p0 &&& (2147483647 : Int32)) / (13 : Int32)) * (13 : Int32)))
    obtain ⟨_, _, ⟨T2, L2, k2, n2⟩, -, X2, ⟨Lc2, hQ2, l2, y2, z2⟩, st2⟩ := X1.virtualBack hx (y := (⟨"com/example/tariffwise/tariffwise/diameter/AvpType", "fits", "(I)Z"⟩ : MethodName)) (z := (⟨"com/example/tariffwise/tariffwise/diameter/AvpType", "fits", "(I)Z"⟩ : MethodName)) hown (mvT hZ (hw _ (List.mem_of_getElem? (i := 8) rfl))) (mvT hZ (hw _ (List.mem_of_getElem? (i := 9) rfl))) (notFace_of_selects (args := #[]) (mvT hZ (hw _ (List.mem_of_getElem? (i := 11) rfl)))) (mvT hZ (hw _ (List.mem_of_getElem? (i := 11) rfl))) (mvT hZ (hw _ (List.mem_of_getElem? (i := 10) rfl))) (by decide) (backOf (W := 0) (own_rm2 l Z aA hw [] (own_f1_0 ((p0 &&& (2147483647 : Int32)) - ((p0 &&& (2147483647 : Int32)) / (13 : Int32)) * (13 : Int32)) w_OCTET_STRING w_INTEGER32 w_INTEGER64 w_UNSIGNED32 w_UNSIGNED64 w_GROUPED w_ADDRESS w_TIME w_UTF8_STRING w_DIAMETER_IDENTITY w_DIAMETER_URI w_ENUMERATED w_IP_FILTER_RULE) t24_0 (own_fx ((p0 &&& (2147483647 : Int32)) - ((p0 &&& (2147483647 : Int32)) / (13 : Int32)) * (13 : Int32))) (own_mn ((p0 &&& (2147483647 : Int32)) - ((p0 &&& (2147483647 : Int32)) / (13 : Int32)) * (13 : Int32))) h0 n0 Z0 (own_fld HS ((p0 &&& (2147483647 : Int32)) - ((p0 &&& (2147483647 : Int32)) / (13 : Int32)) * (13 : Int32))) (own_flm HS ((p0 &&& (2147483647 : Int32)) - ((p0 &&& (2147483647 : Int32)) / (13 : Int32)) * (13 : Int32)))) hZ (hw _ (List.mem_of_getElem? (i := 12) rfl)) (hw _ (List.mem_of_getElem? (i := 6) rfl)) (by decide) (by decide)) q2a q2c (g := (mkF m 36 #[.val (.int p0), .val (.int p1), .val (.int p2), .val (.int ((p0 &&& (2147483647 : Int32)) - ((p0 &&& (2147483647 : Int32)) / (13 : Int32)) * (13 : Int32))), .val (.int t24_0), .val (.ref (own_f1_0 ((p0 &&& (2147483647 : Int32)) - ((p0 &&& (2147483647 : Int32)) / (13 : Int32)) * (13 : Int32)) w_OCTET_STRING w_INTEGER32 w_INTEGER64 w_UNSIGNED32 w_UNSIGNED64 w_GROUPED w_ADDRESS w_TIME w_UTF8_STRING w_DIAMETER_IDENTITY w_DIAMETER_URI w_ENUMERATED w_IP_FILTER_RULE)), .unset, .unset, .unset] [(.int t24_0), (.ref (own_f1_0 ((p0 &&& (2147483647 : Int32)) - ((p0 &&& (2147483647 : Int32)) / (13 : Int32)) * (13 : Int32)) w_OCTET_STRING w_INTEGER32 w_INTEGER64 w_UNSIGNED32 w_UNSIGNED64 w_GROUPED w_ADDRESS w_TIME w_UTF8_STRING w_DIAMETER_IDENTITY w_DIAMETER_URI w_ENUMERATED w_IP_FILTER_RULE))])) rfl (by rw [hml]; rfl) (Steps.refl _) (argsL := [(.int t24_0)]) (rest := []) (lenOf own_pd1 rfl) rfl (by show 2 * 0 + _ ≤ _; exact Nat.le_of_eq rfl) (hb hby at_36) (fun _ _ => ⟨rfl, e1, (by decide : 0 + 0 ≤ _), (by decide : 0 + 0 ≤ _)⟩)
    dsimp only [Pt.U, Pt.locs, Pt.cells, Pt.slots] at X2 l2 y2 z2 st2 hQ2
    subst y2 z2
    obtain ⟨rfl, N2q, e2⟩ := hQ2
    have N2 : Fr n0 L2 := by rw [l2]; exact Fr.app N1 N2q
    obtain ⟨_, _, ⟨T3, L3, k3, n3⟩, -, X3, ⟨Lc3, hQ3, l3, y3, z3⟩, st3⟩ := Jvm.LawKit.callS X2 hx (y := (⟨"com/example/tariffwise/tariffwise/diameter/AvpTypeFitsPinLaw", "onlyLength", "(I)I"⟩ : MethodName)) hown (mvT hZ (hw _ (List.mem_of_getElem? (i := 15) rfl))) (mvT hZ (hw _ (List.mem_of_getElem? (i := 16) rfl))) (mvT hZ (hw _ (List.mem_of_getElem? (i := 3) rfl))) (mvT hZ (hw _ (List.mem_of_getElem? (i := 17) rfl))) (by decide) (backOf (W := 0) (own_rm3 l Z aA hw [] ((p0 &&& (2147483647 : Int32)) - ((p0 &&& (2147483647 : Int32)) / (13 : Int32)) * (13 : Int32)) h0 n0 Z0 ) hZ (hw _ (List.mem_of_getElem? (i := 17) rfl)) (hw _ (List.mem_of_getElem? (i := 3) rfl)) (by decide) (by decide)) (g := (mkF m 42 #[.val (.int p0), .val (.int p1), .val (.int p2), .val (.int ((p0 &&& (2147483647 : Int32)) - ((p0 &&& (2147483647 : Int32)) / (13 : Int32)) * (13 : Int32))), .val (.int t24_0), .val (.ref (own_f1_0 ((p0 &&& (2147483647 : Int32)) - ((p0 &&& (2147483647 : Int32)) / (13 : Int32)) * (13 : Int32)) w_OCTET_STRING w_INTEGER32 w_INTEGER64 w_UNSIGNED32 w_UNSIGNED64 w_GROUPED w_ADDRESS w_TIME w_UTF8_STRING w_DIAMETER_IDENTITY w_DIAMETER_URI w_ENUMERATED w_IP_FILTER_RULE)), .val (.int (own_f2_0 t24_0 (own_fx ((p0 &&& (2147483647 : Int32)) - ((p0 &&& (2147483647 : Int32)) / (13 : Int32)) * (13 : Int32))) (own_mn ((p0 &&& (2147483647 : Int32)) - ((p0 &&& (2147483647 : Int32)) / (13 : Int32)) * (13 : Int32))))), .unset, .unset] [(.int ((p0 &&& (2147483647 : Int32)) - ((p0 &&& (2147483647 : Int32)) / (13 : Int32)) * (13 : Int32)))])) rfl (by rw [hml]; rfl) (argsL := [(.int ((p0 &&& (2147483647 : Int32)) - ((p0 &&& (2147483647 : Int32)) / (13 : Int32)) * (13 : Int32)))]) (rest := []) (lenOf own_pd2 rfl) rfl (by show 2 * 0 + _ ≤ _; exact Nat.le_of_eq rfl) (hb hby at_42) (fun _ _ => ⟨rfl, e2, (by decide : 0 + 0 ≤ _), (by decide : 0 + 0 ≤ _)⟩)
    dsimp only [Pt.U, Pt.locs, Pt.cells, Pt.slots] at X3 l3 y3 z3 st3 hQ3
    subst y3 z3
    obtain ⟨rfl, N3q, e3⟩ := hQ3
    have N3 : Fr n0 L3 := by rw [l3]; exact Fr.app N2 N3q
    refine Owe.step (T' := T3) (g' := (mkF m 49 #[.val (.int p0), .val (.int p1), .val (.int p2), .val (.int ((p0 &&& (2147483647 : Int32)) - ((p0 &&& (2147483647 : Int32)) / (13 : Int32)) * (13 : Int32))), .val (.int t24_0), .val (.ref (own_f1_0 ((p0 &&& (2147483647 : Int32)) - ((p0 &&& (2147483647 : Int32)) / (13 : Int32)) * (13 : Int32)) w_OCTET_STRING w_INTEGER32 w_INTEGER64 w_UNSIGNED32 w_UNSIGNED64 w_GROUPED w_ADDRESS w_TIME w_UTF8_STRING w_DIAMETER_IDENTITY w_DIAMETER_URI w_ENUMERATED w_IP_FILTER_RULE)), .val (.int (own_f2_0 t24_0 (own_fx ((p0 &&& (2147483647 : Int32)) - ((p0 &&& (2147483647 : Int32)) / (13 : Int32)) * (13 : Int32))) (own_mn ((p0 &&& (2147483647 : Int32)) - ((p0 &&& (2147483647 : Int32)) / (13 : Int32)) * (13 : Int32))))), .val (.int (own_f3_0 ((p0 &&& (2147483647 : Int32)) - ((p0 &&& (2147483647 : Int32)) / (13 : Int32)) * (13 : Int32)))), .unset] [(.int (own_f3_0 ((p0 &&& (2147483647 : Int32)) - ((p0 &&& (2147483647 : Int32)) / (13 : Int32)) * (13 : Int32))))])) (fun t k => ?_) ?_
    · show Steps p.tables e below (T24j.setTop (mkF m 24 #[.val (.int p0), .val (.int p1), .val (.int p2), .val (.int ((p0 &&& (2147483647 : Int32)) - ((p0 &&& (2147483647 : Int32)) / (13 : Int32)) * (13 : Int32))), .unset, .unset, .unset, .unset, .unset] [(.int t24_0)])) t
      refine XS.istore X24j.here hx rfl (hb hby at_24) rfl (l' := #[.val (.int p0), .val (.int p1), .val (.int p2), .val (.int ((p0 &&& (2147483647 : Int32)) - ((p0 &&& (2147483647 : Int32)) / (13 : Int32)) * (13 : Int32))), .val (.int t24_0), .unset, .unset, .unset, .unset]) rfl ?_
      show Steps p.tables e below (T24j.setTop (mkF m 26 #[.val (.int p0), .val (.int p1), .val (.int p2), .val (.int ((p0 &&& (2147483647 : Int32)) - ((p0 &&& (2147483647 : Int32)) / (13 : Int32)) * (13 : Int32))), .val (.int t24_0), .unset, .unset, .unset, .unset] [])) t
      refine XS.iloadN X24j.here hx rfl (hb hby at_26) rfl ?_
      show Steps p.tables e below (T24j.setTop (mkF m 27 #[.val (.int p0), .val (.int p1), .val (.int p2), .val (.int ((p0 &&& (2147483647 : Int32)) - ((p0 &&& (2147483647 : Int32)) / (13 : Int32)) * (13 : Int32))), .val (.int t24_0), .unset, .unset, .unset, .unset] [(.int ((p0 &&& (2147483647 : Int32)) - ((p0 &&& (2147483647 : Int32)) / (13 : Int32)) * (13 : Int32)))])) t
      refine st1 _ ?_
      show Steps p.tables e below (T1.setTop (mkF m 30 #[.val (.int p0), .val (.int p1), .val (.int p2), .val (.int ((p0 &&& (2147483647 : Int32)) - ((p0 &&& (2147483647 : Int32)) / (13 : Int32)) * (13 : Int32))), .val (.int t24_0), .unset, .unset, .unset, .unset] [(.ref (own_f1_0 ((p0 &&& (2147483647 : Int32)) - ((p0 &&& (2147483647 : Int32)) / (13 : Int32)) * (13 : Int32)) w_OCTET_STRING w_INTEGER32 w_INTEGER64 w_UNSIGNED32 w_UNSIGNED64 w_GROUPED w_ADDRESS w_TIME w_UTF8_STRING w_DIAMETER_IDENTITY w_DIAMETER_URI w_ENUMERATED w_IP_FILTER_RULE))])) t
      refine XS.astore X1.here hx rfl (hb hby at_30) rfl rfl (l' := #[.val (.int p0), .val (.int p1), .val (.int p2), .val (.int ((p0 &&& (2147483647 : Int32)) - ((p0 &&& (2147483647 : Int32)) / (13 : Int32)) * (13 : Int32))), .val (.int t24_0), .val (.ref (own_f1_0 ((p0 &&& (2147483647 : Int32)) - ((p0 &&& (2147483647 : Int32)) / (13 : Int32)) * (13 : Int32)) w_OCTET_STRING w_INTEGER32 w_INTEGER64 w_UNSIGNED32 w_UNSIGNED64 w_GROUPED w_ADDRESS w_TIME w_UTF8_STRING w_DIAMETER_IDENTITY w_DIAMETER_URI w_ENUMERATED w_IP_FILTER_RULE)), .unset, .unset, .unset]) rfl ?_
      show Steps p.tables e below (T1.setTop (mkF m 32 #[.val (.int p0), .val (.int p1), .val (.int p2), .val (.int ((p0 &&& (2147483647 : Int32)) - ((p0 &&& (2147483647 : Int32)) / (13 : Int32)) * (13 : Int32))), .val (.int t24_0), .val (.ref (own_f1_0 ((p0 &&& (2147483647 : Int32)) - ((p0 &&& (2147483647 : Int32)) / (13 : Int32)) * (13 : Int32)) w_OCTET_STRING w_INTEGER32 w_INTEGER64 w_UNSIGNED32 w_UNSIGNED64 w_GROUPED w_ADDRESS w_TIME w_UTF8_STRING w_DIAMETER_IDENTITY w_DIAMETER_URI w_ENUMERATED w_IP_FILTER_RULE)), .unset, .unset, .unset] [])) t
      refine XS.aload X1.here hx rfl (hb hby at_32) rfl rfl ?_
      show Steps p.tables e below (T1.setTop (mkF m 34 #[.val (.int p0), .val (.int p1), .val (.int p2), .val (.int ((p0 &&& (2147483647 : Int32)) - ((p0 &&& (2147483647 : Int32)) / (13 : Int32)) * (13 : Int32))), .val (.int t24_0), .val (.ref (own_f1_0 ((p0 &&& (2147483647 : Int32)) - ((p0 &&& (2147483647 : Int32)) / (13 : Int32)) * (13 : Int32)) w_OCTET_STRING w_INTEGER32 w_INTEGER64 w_UNSIGNED32 w_UNSIGNED64 w_GROUPED w_ADDRESS w_TIME w_UTF8_STRING w_DIAMETER_IDENTITY w_DIAMETER_URI w_ENUMERATED w_IP_FILTER_RULE)), .unset, .unset, .unset] [(.ref (own_f1_0 ((p0 &&& (2147483647 : Int32)) - ((p0 &&& (2147483647 : Int32)) / (13 : Int32)) * (13 : Int32)) w_OCTET_STRING w_INTEGER32 w_INTEGER64 w_UNSIGNED32 w_UNSIGNED64 w_GROUPED w_ADDRESS w_TIME w_UTF8_STRING w_DIAMETER_IDENTITY w_DIAMETER_URI w_ENUMERATED w_IP_FILTER_RULE))])) t
      refine XS.iload X1.here hx rfl (hb hby at_34) rfl ?_
      show Steps p.tables e below (T1.setTop (mkF m 36 #[.val (.int p0), .val (.int p1), .val (.int p2), .val (.int ((p0 &&& (2147483647 : Int32)) - ((p0 &&& (2147483647 : Int32)) / (13 : Int32)) * (13 : Int32))), .val (.int t24_0), .val (.ref (own_f1_0 ((p0 &&& (2147483647 : Int32)) - ((p0 &&& (2147483647 : Int32)) / (13 : Int32)) * (13 : Int32)) w_OCTET_STRING w_INTEGER32 w_INTEGER64 w_UNSIGNED32 w_UNSIGNED64 w_GROUPED w_ADDRESS w_TIME w_UTF8_STRING w_DIAMETER_IDENTITY w_DIAMETER_URI w_ENUMERATED w_IP_FILTER_RULE)), .unset, .unset, .unset] [(.int t24_0), (.ref (own_f1_0 ((p0 &&& (2147483647 : Int32)) - ((p0 &&& (2147483647 : Int32)) / (13 : Int32)) * (13 : Int32)) w_OCTET_STRING w_INTEGER32 w_INTEGER64 w_UNSIGNED32 w_UNSIGNED64 w_GROUPED w_ADDRESS w_TIME w_UTF8_STRING w_DIAMETER_IDENTITY w_DIAMETER_URI w_ENUMERATED w_IP_FILTER_RULE))])) t
      refine st2.trans ?_
      show Steps p.tables e below (T2.setTop (mkF m 39 #[.val (.int p0), .val (.int p1), .val (.int p2), .val (.int ((p0 &&& (2147483647 : Int32)) - ((p0 &&& (2147483647 : Int32)) / (13 : Int32)) * (13 : Int32))), .val (.int t24_0), .val (.ref (own_f1_0 ((p0 &&& (2147483647 : Int32)) - ((p0 &&& (2147483647 : Int32)) / (13 : Int32)) * (13 : Int32)) w_OCTET_STRING w_INTEGER32 w_INTEGER64 w_UNSIGNED32 w_UNSIGNED64 w_GROUPED w_ADDRESS w_TIME w_UTF8_STRING w_DIAMETER_IDENTITY w_DIAMETER_URI w_ENUMERATED w_IP_FILTER_RULE)), .unset, .unset, .unset] [(.int (own_f2_0 t24_0 (own_fx ((p0 &&& (2147483647 : Int32)) - ((p0 &&& (2147483647 : Int32)) / (13 : Int32)) * (13 : Int32))) (own_mn ((p0 &&& (2147483647 : Int32)) - ((p0 &&& (2147483647 : Int32)) / (13 : Int32)) * (13 : Int32)))))])) t
      refine XS.istore X2.here hx rfl (hb hby at_39) rfl (l' := #[.val (.int p0), .val (.int p1), .val (.int p2), .val (.int ((p0 &&& (2147483647 : Int32)) - ((p0 &&& (2147483647 : Int32)) / (13 : Int32)) * (13 : Int32))), .val (.int t24_0), .val (.ref (own_f1_0 ((p0 &&& (2147483647 : Int32)) - ((p0 &&& (2147483647 : Int32)) / (13 : Int32)) * (13 : Int32)) w_OCTET_STRING w_INTEGER32 w_INTEGER64 w_UNSIGNED32 w_UNSIGNED64 w_GROUPED w_ADDRESS w_TIME w_UTF8_STRING w_DIAMETER_IDENTITY w_DIAMETER_URI w_ENUMERATED w_IP_FILTER_RULE)), .val (.int (own_f2_0 t24_0 (own_fx ((p0 &&& (2147483647 : Int32)) - ((p0 &&& (2147483647 : Int32)) / (13 : Int32)) * (13 : Int32))) (own_mn ((p0 &&& (2147483647 : Int32)) - ((p0 &&& (2147483647 : Int32)) / (13 : Int32)) * (13 : Int32))))), .unset, .unset]) rfl ?_
      show Steps p.tables e below (T2.setTop (mkF m 41 #[.val (.int p0), .val (.int p1), .val (.int p2), .val (.int ((p0 &&& (2147483647 : Int32)) - ((p0 &&& (2147483647 : Int32)) / (13 : Int32)) * (13 : Int32))), .val (.int t24_0), .val (.ref (own_f1_0 ((p0 &&& (2147483647 : Int32)) - ((p0 &&& (2147483647 : Int32)) / (13 : Int32)) * (13 : Int32)) w_OCTET_STRING w_INTEGER32 w_INTEGER64 w_UNSIGNED32 w_UNSIGNED64 w_GROUPED w_ADDRESS w_TIME w_UTF8_STRING w_DIAMETER_IDENTITY w_DIAMETER_URI w_ENUMERATED w_IP_FILTER_RULE)), .val (.int (own_f2_0 t24_0 (own_fx ((p0 &&& (2147483647 : Int32)) - ((p0 &&& (2147483647 : Int32)) / (13 : Int32)) * (13 : Int32))) (own_mn ((p0 &&& (2147483647 : Int32)) - ((p0 &&& (2147483647 : Int32)) / (13 : Int32)) * (13 : Int32))))), .unset, .unset] [])) t
      refine XS.iloadN X2.here hx rfl (hb hby at_41) rfl ?_
      show Steps p.tables e below (T2.setTop (mkF m 42 #[.val (.int p0), .val (.int p1), .val (.int p2), .val (.int ((p0 &&& (2147483647 : Int32)) - ((p0 &&& (2147483647 : Int32)) / (13 : Int32)) * (13 : Int32))), .val (.int t24_0), .val (.ref (own_f1_0 ((p0 &&& (2147483647 : Int32)) - ((p0 &&& (2147483647 : Int32)) / (13 : Int32)) * (13 : Int32)) w_OCTET_STRING w_INTEGER32 w_INTEGER64 w_UNSIGNED32 w_UNSIGNED64 w_GROUPED w_ADDRESS w_TIME w_UTF8_STRING w_DIAMETER_IDENTITY w_DIAMETER_URI w_ENUMERATED w_IP_FILTER_RULE)), .val (.int (own_f2_0 t24_0 (own_fx ((p0 &&& (2147483647 : Int32)) - ((p0 &&& (2147483647 : Int32)) / (13 : Int32)) * (13 : Int32))) (own_mn ((p0 &&& (2147483647 : Int32)) - ((p0 &&& (2147483647 : Int32)) / (13 : Int32)) * (13 : Int32))))), .unset, .unset] [(.int ((p0 &&& (2147483647 : Int32)) - ((p0 &&& (2147483647 : Int32)) / (13 : Int32)) * (13 : Int32)))])) t
      refine st3 _ ?_
      show Steps p.tables e below (T3.setTop (mkF m 45 #[.val (.int p0), .val (.int p1), .val (.int p2), .val (.int ((p0 &&& (2147483647 : Int32)) - ((p0 &&& (2147483647 : Int32)) / (13 : Int32)) * (13 : Int32))), .val (.int t24_0), .val (.ref (own_f1_0 ((p0 &&& (2147483647 : Int32)) - ((p0 &&& (2147483647 : Int32)) / (13 : Int32)) * (13 : Int32)) w_OCTET_STRING w_INTEGER32 w_INTEGER64 w_UNSIGNED32 w_UNSIGNED64 w_GROUPED w_ADDRESS w_TIME w_UTF8_STRING w_DIAMETER_IDENTITY w_DIAMETER_URI w_ENUMERATED w_IP_FILTER_RULE)), .val (.int (own_f2_0 t24_0 (own_fx ((p0 &&& (2147483647 : Int32)) - ((p0 &&& (2147483647 : Int32)) / (13 : Int32)) * (13 : Int32))) (own_mn ((p0 &&& (2147483647 : Int32)) - ((p0 &&& (2147483647 : Int32)) / (13 : Int32)) * (13 : Int32))))), .unset, .unset] [(.int (own_f3_0 ((p0 &&& (2147483647 : Int32)) - ((p0 &&& (2147483647 : Int32)) / (13 : Int32)) * (13 : Int32))))])) t
      refine XS.istore X3.here hx rfl (hb hby at_45) rfl (l' := #[.val (.int p0), .val (.int p1), .val (.int p2), .val (.int ((p0 &&& (2147483647 : Int32)) - ((p0 &&& (2147483647 : Int32)) / (13 : Int32)) * (13 : Int32))), .val (.int t24_0), .val (.ref (own_f1_0 ((p0 &&& (2147483647 : Int32)) - ((p0 &&& (2147483647 : Int32)) / (13 : Int32)) * (13 : Int32)) w_OCTET_STRING w_INTEGER32 w_INTEGER64 w_UNSIGNED32 w_UNSIGNED64 w_GROUPED w_ADDRESS w_TIME w_UTF8_STRING w_DIAMETER_IDENTITY w_DIAMETER_URI w_ENUMERATED w_IP_FILTER_RULE)), .val (.int (own_f2_0 t24_0 (own_fx ((p0 &&& (2147483647 : Int32)) - ((p0 &&& (2147483647 : Int32)) / (13 : Int32)) * (13 : Int32))) (own_mn ((p0 &&& (2147483647 : Int32)) - ((p0 &&& (2147483647 : Int32)) / (13 : Int32)) * (13 : Int32))))), .val (.int (own_f3_0 ((p0 &&& (2147483647 : Int32)) - ((p0 &&& (2147483647 : Int32)) / (13 : Int32)) * (13 : Int32)))), .unset]) rfl ?_
      show Steps p.tables e below (T3.setTop (mkF m 47 #[.val (.int p0), .val (.int p1), .val (.int p2), .val (.int ((p0 &&& (2147483647 : Int32)) - ((p0 &&& (2147483647 : Int32)) / (13 : Int32)) * (13 : Int32))), .val (.int t24_0), .val (.ref (own_f1_0 ((p0 &&& (2147483647 : Int32)) - ((p0 &&& (2147483647 : Int32)) / (13 : Int32)) * (13 : Int32)) w_OCTET_STRING w_INTEGER32 w_INTEGER64 w_UNSIGNED32 w_UNSIGNED64 w_GROUPED w_ADDRESS w_TIME w_UTF8_STRING w_DIAMETER_IDENTITY w_DIAMETER_URI w_ENUMERATED w_IP_FILTER_RULE)), .val (.int (own_f2_0 t24_0 (own_fx ((p0 &&& (2147483647 : Int32)) - ((p0 &&& (2147483647 : Int32)) / (13 : Int32)) * (13 : Int32))) (own_mn ((p0 &&& (2147483647 : Int32)) - ((p0 &&& (2147483647 : Int32)) / (13 : Int32)) * (13 : Int32))))), .val (.int (own_f3_0 ((p0 &&& (2147483647 : Int32)) - ((p0 &&& (2147483647 : Int32)) / (13 : Int32)) * (13 : Int32)))), .unset] [])) t
      refine XS.iload X3.here hx rfl (hb hby at_47) rfl ?_
      show Steps p.tables e below (T3.setTop (mkF m 49 #[.val (.int p0), .val (.int p1), .val (.int p2), .val (.int ((p0 &&& (2147483647 : Int32)) - ((p0 &&& (2147483647 : Int32)) / (13 : Int32)) * (13 : Int32))), .val (.int t24_0), .val (.ref (own_f1_0 ((p0 &&& (2147483647 : Int32)) - ((p0 &&& (2147483647 : Int32)) / (13 : Int32)) * (13 : Int32)) w_OCTET_STRING w_INTEGER32 w_INTEGER64 w_UNSIGNED32 w_UNSIGNED64 w_GROUPED w_ADDRESS w_TIME w_UTF8_STRING w_DIAMETER_IDENTITY w_DIAMETER_URI w_ENUMERATED w_IP_FILTER_RULE)), .val (.int (own_f2_0 t24_0 (own_fx ((p0 &&& (2147483647 : Int32)) - ((p0 &&& (2147483647 : Int32)) / (13 : Int32)) * (13 : Int32))) (own_mn ((p0 &&& (2147483647 : Int32)) - ((p0 &&& (2147483647 : Int32)) / (13 : Int32)) * (13 : Int32))))), .val (.int (own_f3_0 ((p0 &&& (2147483647 : Int32)) - ((p0 &&& (2147483647 : Int32)) / (13 : Int32)) * (13 : Int32)))), .unset] [(.int (own_f3_0 ((p0 &&& (2147483647 : Int32)) - ((p0 &&& (2147483647 : Int32)) / (13 : Int32)) * (13 : Int32))))])) t
      exact k
    have j72 : ∀ (T : State) (Lc : List Loc) (X : Stand p l e room_1 s m #[(.int p0), (.int p1), (.int p2)] below meth c T Lc 0 0) (eT : T.heap = h0) (N : Fr n0 Lc) (v72_8 : Int32), Owe p e below s 0 0 (QL (.int (own_f0_72 p0 v72_8 t24_0)) n0) T (mkF m 72 #[.val (.int p0), .val (.int p1), .val (.int p2), .val (.int ((p0 &&& (2147483647 : Int32)) - ((p0 &&& (2147483647 : Int32)) / (13 : Int32)) * (13 : Int32))), .val (.int t24_0), .val (.ref (own_f1_0 ((p0 &&& (2147483647 : Int32)) - ((p0 &&& (2147483647 : Int32)) / (13 : Int32)) * (13 : Int32)) w_OCTET_STRING w_INTEGER32 w_INTEGER64 w_UNSIGNED32 w_UNSIGNED64 w_GROUPED w_ADDRESS w_TIME w_UTF8_STRING w_DIAMETER_IDENTITY w_DIAMETER_URI w_ENUMERATED w_IP_FILTER_RULE)), .val (.int (own_f2_0 t24_0 (own_fx ((p0 &&& (2147483647 : Int32)) - ((p0 &&& (2147483647 : Int32)) / (13 : Int32)) * (13 : Int32))) (own_mn ((p0 &&& (2147483647 : Int32)) - ((p0 &&& (2147483647 : Int32)) / (13 : Int32)) * (13 : Int32))))), .val (.int (own_f3_0 ((p0 &&& (2147483647 : Int32)) - ((p0 &&& (2147483647 : Int32)) / (13 : Int32)) * (13 : Int32)))), .val (.int v72_8)] []) := by
      intro T72j Lc72j X72j e72j N72j v72_8
      refine Owe.step (T' := T72j) (g' := (mkF m 76 #[.val (.int p0), .val (.int p1), .val (.int p2), .val (.int ((p0 &&& (2147483647 : Int32)) - ((p0 &&& (2147483647 : Int32)) / (13 : Int32)) * (13 : Int32))), .val (.int t24_0), .val (.ref (own_f1_0 ((p0 &&& (2147483647 : Int32)) - ((p0 &&& (2147483647 : Int32)) / (13 : Int32)) * (13 : Int32)) w_OCTET_STRING w_INTEGER32 w_INTEGER64 w_UNSIGNED32 w_UNSIGNED64 w_GROUPED w_ADDRESS w_TIME w_UTF8_STRING w_DIAMETER_IDENTITY w_DIAMETER_URI w_ENUMERATED w_IP_FILTER_RULE)), .val (.int (own_f2_0 t24_0 (own_fx ((p0 &&& (2147483647 : Int32)) - ((p0 &&& (2147483647 : Int32)) / (13 : Int32)) * (13 : Int32))) (own_mn ((p0 &&& (2147483647 : Int32)) - ((p0 &&& (2147483647 : Int32)) / (13 : Int32)) * (13 : Int32))))), .val (.int (own_f3_0 ((p0 &&& (2147483647 : Int32)) - ((p0 &&& (2147483647 : Int32)) / (13 : Int32)) * (13 : Int32)))), .val (.int v72_8)] [(.int v72_8), (.int (own_f2_0 t24_0 (own_fx ((p0 &&& (2147483647 : Int32)) - ((p0 &&& (2147483647 : Int32)) / (13 : Int32)) * (13 : Int32))) (own_mn ((p0 &&& (2147483647 : Int32)) - ((p0 &&& (2147483647 : Int32)) / (13 : Int32)) * (13 : Int32)))))])) (fun t k => ?_) ?_
      · show Steps p.tables e below (T72j.setTop (mkF m 72 #[.val (.int p0), .val (.int p1), .val (.int p2), .val (.int ((p0 &&& (2147483647 : Int32)) - ((p0 &&& (2147483647 : Int32)) / (13 : Int32)) * (13 : Int32))), .val (.int t24_0), .val (.ref (own_f1_0 ((p0 &&& (2147483647 : Int32)) - ((p0 &&& (2147483647 : Int32)) / (13 : Int32)) * (13 : Int32)) w_OCTET_STRING w_INTEGER32 w_INTEGER64 w_UNSIGNED32 w_UNSIGNED64 w_GROUPED w_ADDRESS w_TIME w_UTF8_STRING w_DIAMETER_IDENTITY w_DIAMETER_URI w_ENUMERATED w_IP_FILTER_RULE)), .val (.int (own_f2_0 t24_0 (own_fx ((p0 &&& (2147483647 : Int32)) - ((p0 &&& (2147483647 : Int32)) / (13 : Int32)) * (13 : Int32))) (own_mn ((p0 &&& (2147483647 : Int32)) - ((p0 &&& (2147483647 : Int32)) / (13 : Int32)) * (13 : Int32))))), .val (.int (own_f3_0 ((p0 &&& (2147483647 : Int32)) - ((p0 &&& (2147483647 : Int32)) / (13 : Int32)) * (13 : Int32)))), .val (.int v72_8)] [])) t
        refine XS.iload X72j.here hx rfl (hb hby at_72) rfl ?_
        show Steps p.tables e below (T72j.setTop (mkF m 74 #[.val (.int p0), .val (.int p1), .val (.int p2), .val (.int ((p0 &&& (2147483647 : Int32)) - ((p0 &&& (2147483647 : Int32)) / (13 : Int32)) * (13 : Int32))), .val (.int t24_0), .val (.ref (own_f1_0 ((p0 &&& (2147483647 : Int32)) - ((p0 &&& (2147483647 : Int32)) / (13 : Int32)) * (13 : Int32)) w_OCTET_STRING w_INTEGER32 w_INTEGER64 w_UNSIGNED32 w_UNSIGNED64 w_GROUPED w_ADDRESS w_TIME w_UTF8_STRING w_DIAMETER_IDENTITY w_DIAMETER_URI w_ENUMERATED w_IP_FILTER_RULE)), .val (.int (own_f2_0 t24_0 (own_fx ((p0 &&& (2147483647 : Int32)) - ((p0 &&& (2147483647 : Int32)) / (13 : Int32)) * (13 : Int32))) (own_mn ((p0 &&& (2147483647 : Int32)) - ((p0 &&& (2147483647 : Int32)) / (13 : Int32)) * (13 : Int32))))), .val (.int (own_f3_0 ((p0 &&& (2147483647 : Int32)) - ((p0 &&& (2147483647 : Int32)) / (13 : Int32)) * (13 : Int32)))), .val (.int v72_8)] [(.int (own_f2_0 t24_0 (own_fx ((p0 &&& (2147483647 : Int32)) - ((p0 &&& (2147483647 : Int32)) / (13 : Int32)) * (13 : Int32))) (own_mn ((p0 &&& (2147483647 : Int32)) - ((p0 &&& (2147483647 : Int32)) / (13 : Int32)) * (13 : Int32)))))])) t
        refine XS.iload X72j.here hx rfl (hb hby at_74) rfl ?_
        show Steps p.tables e below (T72j.setTop (mkF m 76 #[.val (.int p0), .val (.int p1), .val (.int p2), .val (.int ((p0 &&& (2147483647 : Int32)) - ((p0 &&& (2147483647 : Int32)) / (13 : Int32)) * (13 : Int32))), .val (.int t24_0), .val (.ref (own_f1_0 ((p0 &&& (2147483647 : Int32)) - ((p0 &&& (2147483647 : Int32)) / (13 : Int32)) * (13 : Int32)) w_OCTET_STRING w_INTEGER32 w_INTEGER64 w_UNSIGNED32 w_UNSIGNED64 w_GROUPED w_ADDRESS w_TIME w_UTF8_STRING w_DIAMETER_IDENTITY w_DIAMETER_URI w_ENUMERATED w_IP_FILTER_RULE)), .val (.int (own_f2_0 t24_0 (own_fx ((p0 &&& (2147483647 : Int32)) - ((p0 &&& (2147483647 : Int32)) / (13 : Int32)) * (13 : Int32))) (own_mn ((p0 &&& (2147483647 : Int32)) - ((p0 &&& (2147483647 : Int32)) / (13 : Int32)) * (13 : Int32))))), .val (.int (own_f3_0 ((p0 &&& (2147483647 : Int32)) - ((p0 &&& (2147483647 : Int32)) / (13 : Int32)) * (13 : Int32)))), .val (.int v72_8)] [(.int v72_8), (.int (own_f2_0 t24_0 (own_fx ((p0 &&& (2147483647 : Int32)) - ((p0 &&& (2147483647 : Int32)) / (13 : Int32)) * (13 : Int32))) (own_mn ((p0 &&& (2147483647 : Int32)) - ((p0 &&& (2147483647 : Int32)) / (13 : Int32)) * (13 : Int32)))))])) t
        exact k
      by_cases hc76 : (own_f2_0 t24_0 (own_fx ((p0 &&& (2147483647 : Int32)) - ((p0 &&& (2147483647 : Int32)) / (13 : Int32)) * (13 : Int32))) (own_mn ((p0 &&& (2147483647 : Int32)) - ((p0 &&& (2147483647 : Int32)) / (13 : Int32)) * (13 : Int32)))) = v72_8
      · refine Owe.step (T' := T72j) (g' := (mkF m 79 #[.val (.int p0), .val (.int p1), .val (.int p2), .val (.int ((p0 &&& (2147483647 : Int32)) - ((p0 &&& (2147483647 : Int32)) / (13 : Int32)) * (13 : Int32))), .val (.int t24_0), .val (.ref (own_f1_0 ((p0 &&& (2147483647 : Int32)) - ((p0 &&& (2147483647 : Int32)) / (13 : Int32)) * (13 : Int32)) w_OCTET_STRING w_INTEGER32 w_INTEGER64 w_UNSIGNED32 w_UNSIGNED64 w_GROUPED w_ADDRESS w_TIME w_UTF8_STRING w_DIAMETER_IDENTITY w_DIAMETER_URI w_ENUMERATED w_IP_FILTER_RULE)), .val (.int (own_f2_0 t24_0 (own_fx ((p0 &&& (2147483647 : Int32)) - ((p0 &&& (2147483647 : Int32)) / (13 : Int32)) * (13 : Int32))) (own_mn ((p0 &&& (2147483647 : Int32)) - ((p0 &&& (2147483647 : Int32)) / (13 : Int32)) * (13 : Int32))))), .val (.int (own_f3_0 ((p0 &&& (2147483647 : Int32)) - ((p0 &&& (2147483647 : Int32)) / (13 : Int32)) * (13 : Int32)))), .val (.int v72_8)] [])) (fun t k => ?_) ?_
        · show Steps p.tables e below (T72j.setTop (mkF m 76 #[.val (.int p0), .val (.int p1), .val (.int p2), .val (.int ((p0 &&& (2147483647 : Int32)) - ((p0 &&& (2147483647 : Int32)) / (13 : Int32)) * (13 : Int32))), .val (.int t24_0), .val (.ref (own_f1_0 ((p0 &&& (2147483647 : Int32)) - ((p0 &&& (2147483647 : Int32)) / (13 : Int32)) * (13 : Int32)) w_OCTET_STRING w_INTEGER32 w_INTEGER64 w_UNSIGNED32 w_UNSIGNED64 w_GROUPED w_ADDRESS w_TIME w_UTF8_STRING w_DIAMETER_IDENTITY w_DIAMETER_URI w_ENUMERATED w_IP_FILTER_RULE)), .val (.int (own_f2_0 t24_0 (own_fx ((p0 &&& (2147483647 : Int32)) - ((p0 &&& (2147483647 : Int32)) / (13 : Int32)) * (13 : Int32))) (own_mn ((p0 &&& (2147483647 : Int32)) - ((p0 &&& (2147483647 : Int32)) / (13 : Int32)) * (13 : Int32))))), .val (.int (own_f3_0 ((p0 &&& (2147483647 : Int32)) - ((p0 &&& (2147483647 : Int32)) / (13 : Int32)) * (13 : Int32)))), .val (.int v72_8)] [(.int v72_8), (.int (own_f2_0 t24_0 (own_fx ((p0 &&& (2147483647 : Int32)) - ((p0 &&& (2147483647 : Int32)) / (13 : Int32)) * (13 : Int32))) (own_mn ((p0 &&& (2147483647 : Int32)) - ((p0 &&& (2147483647 : Int32)) / (13 : Int32)) * (13 : Int32)))))])) t
          refine XS.icmpNo X72j.here hx rfl (hb hby at_76) rfl (teq hc76).2 ?_
          show Steps p.tables e below (T72j.setTop (mkF m 79 #[.val (.int p0), .val (.int p1), .val (.int p2), .val (.int ((p0 &&& (2147483647 : Int32)) - ((p0 &&& (2147483647 : Int32)) / (13 : Int32)) * (13 : Int32))), .val (.int t24_0), .val (.ref (own_f1_0 ((p0 &&& (2147483647 : Int32)) - ((p0 &&& (2147483647 : Int32)) / (13 : Int32)) * (13 : Int32)) w_OCTET_STRING w_INTEGER32 w_INTEGER64 w_UNSIGNED32 w_UNSIGNED64 w_GROUPED w_ADDRESS w_TIME w_UTF8_STRING w_DIAMETER_IDENTITY w_DIAMETER_URI w_ENUMERATED w_IP_FILTER_RULE)), .val (.int (own_f2_0 t24_0 (own_fx ((p0 &&& (2147483647 : Int32)) - ((p0 &&& (2147483647 : Int32)) / (13 : Int32)) * (13 : Int32))) (own_mn ((p0 &&& (2147483647 : Int32)) - ((p0 &&& (2147483647 : Int32)) / (13 : Int32)) * (13 : Int32))))), .val (.int (own_f3_0 ((p0 &&& (2147483647 : Int32)) - ((p0 &&& (2147483647 : Int32)) / (13 : Int32)) * (13 : Int32)))), .val (.int v72_8)] [])) t
          exact k
        rw [show own_f0_72 p0 v72_8 t24_0 = (1 : Int32) from (by rw [own_f0_72, if_pos hc76])]
        refine Owe.ret X72j Bd.notSynchronized (v := (some (.int (1 : Int32)))) (fun h => by rw [Bd.returns] at h; cases h) (fun fs hr => ?_) ⟨rfl, N72j⟩ (by decide) (by decide)
        show Steps p.tables e below (T72j.setTop (mkF m 79 #[.val (.int p0), .val (.int p1), .val (.int p2), .val (.int ((p0 &&& (2147483647 : Int32)) - ((p0 &&& (2147483647 : Int32)) / (13 : Int32)) * (13 : Int32))), .val (.int t24_0), .val (.ref (own_f1_0 ((p0 &&& (2147483647 : Int32)) - ((p0 &&& (2147483647 : Int32)) / (13 : Int32)) * (13 : Int32)) w_OCTET_STRING w_INTEGER32 w_INTEGER64 w_UNSIGNED32 w_UNSIGNED64 w_GROUPED w_ADDRESS w_TIME w_UTF8_STRING w_DIAMETER_IDENTITY w_DIAMETER_URI w_ENUMERATED w_IP_FILTER_RULE)), .val (.int (own_f2_0 t24_0 (own_fx ((p0 &&& (2147483647 : Int32)) - ((p0 &&& (2147483647 : Int32)) / (13 : Int32)) * (13 : Int32))) (own_mn ((p0 &&& (2147483647 : Int32)) - ((p0 &&& (2147483647 : Int32)) / (13 : Int32)) * (13 : Int32))))), .val (.int (own_f3_0 ((p0 &&& (2147483647 : Int32)) - ((p0 &&& (2147483647 : Int32)) / (13 : Int32)) * (13 : Int32)))), .val (.int v72_8)] [])) _
        refine XS.iconst X72j.here hx rfl (hb hby at_79) ?_
        show Steps p.tables e below (T72j.setTop (mkF m 80 #[.val (.int p0), .val (.int p1), .val (.int p2), .val (.int ((p0 &&& (2147483647 : Int32)) - ((p0 &&& (2147483647 : Int32)) / (13 : Int32)) * (13 : Int32))), .val (.int t24_0), .val (.ref (own_f1_0 ((p0 &&& (2147483647 : Int32)) - ((p0 &&& (2147483647 : Int32)) / (13 : Int32)) * (13 : Int32)) w_OCTET_STRING w_INTEGER32 w_INTEGER64 w_UNSIGNED32 w_UNSIGNED64 w_GROUPED w_ADDRESS w_TIME w_UTF8_STRING w_DIAMETER_IDENTITY w_DIAMETER_URI w_ENUMERATED w_IP_FILTER_RULE)), .val (.int (own_f2_0 t24_0 (own_fx ((p0 &&& (2147483647 : Int32)) - ((p0 &&& (2147483647 : Int32)) / (13 : Int32)) * (13 : Int32))) (own_mn ((p0 &&& (2147483647 : Int32)) - ((p0 &&& (2147483647 : Int32)) / (13 : Int32)) * (13 : Int32))))), .val (.int (own_f3_0 ((p0 &&& (2147483647 : Int32)) - ((p0 &&& (2147483647 : Int32)) / (13 : Int32)) * (13 : Int32)))), .val (.int v72_8)] [(.int (1 : Int32))])) _
        refine XS.goto X72j.here hx rfl (pc0 := 80) (pc' := 84) rfl (hb hby at_80) (by decide) (by decide) ?_
        show Steps p.tables e below (T72j.setTop (mkF m 84 #[.val (.int p0), .val (.int p1), .val (.int p2), .val (.int ((p0 &&& (2147483647 : Int32)) - ((p0 &&& (2147483647 : Int32)) / (13 : Int32)) * (13 : Int32))), .val (.int t24_0), .val (.ref (own_f1_0 ((p0 &&& (2147483647 : Int32)) - ((p0 &&& (2147483647 : Int32)) / (13 : Int32)) * (13 : Int32)) w_OCTET_STRING w_INTEGER32 w_INTEGER64 w_UNSIGNED32 w_UNSIGNED64 w_GROUPED w_ADDRESS w_TIME w_UTF8_STRING w_DIAMETER_IDENTITY w_DIAMETER_URI w_ENUMERATED w_IP_FILTER_RULE)), .val (.int (own_f2_0 t24_0 (own_fx ((p0 &&& (2147483647 : Int32)) - ((p0 &&& (2147483647 : Int32)) / (13 : Int32)) * (13 : Int32))) (own_mn ((p0 &&& (2147483647 : Int32)) - ((p0 &&& (2147483647 : Int32)) / (13 : Int32)) * (13 : Int32))))), .val (.int (own_f3_0 ((p0 &&& (2147483647 : Int32)) - ((p0 &&& (2147483647 : Int32)) / (13 : Int32)) * (13 : Int32)))), .val (.int v72_8)] [(.int (1 : Int32))])) _
        exact retN X72j hx (t := .boolean) Bd.returns (by simp) (hb hby at_84) hr
      · refine Owe.step (T' := T72j) (g' := (mkF m 83 #[.val (.int p0), .val (.int p1), .val (.int p2), .val (.int ((p0 &&& (2147483647 : Int32)) - ((p0 &&& (2147483647 : Int32)) / (13 : Int32)) * (13 : Int32))), .val (.int t24_0), .val (.ref (own_f1_0 ((p0 &&& (2147483647 : Int32)) - ((p0 &&& (2147483647 : Int32)) / (13 : Int32)) * (13 : Int32)) w_OCTET_STRING w_INTEGER32 w_INTEGER64 w_UNSIGNED32 w_UNSIGNED64 w_GROUPED w_ADDRESS w_TIME w_UTF8_STRING w_DIAMETER_IDENTITY w_DIAMETER_URI w_ENUMERATED w_IP_FILTER_RULE)), .val (.int (own_f2_0 t24_0 (own_fx ((p0 &&& (2147483647 : Int32)) - ((p0 &&& (2147483647 : Int32)) / (13 : Int32)) * (13 : Int32))) (own_mn ((p0 &&& (2147483647 : Int32)) - ((p0 &&& (2147483647 : Int32)) / (13 : Int32)) * (13 : Int32))))), .val (.int (own_f3_0 ((p0 &&& (2147483647 : Int32)) - ((p0 &&& (2147483647 : Int32)) / (13 : Int32)) * (13 : Int32)))), .val (.int v72_8)] [])) (fun t k => ?_) ?_
        · show Steps p.tables e below (T72j.setTop (mkF m 76 #[.val (.int p0), .val (.int p1), .val (.int p2), .val (.int ((p0 &&& (2147483647 : Int32)) - ((p0 &&& (2147483647 : Int32)) / (13 : Int32)) * (13 : Int32))), .val (.int t24_0), .val (.ref (own_f1_0 ((p0 &&& (2147483647 : Int32)) - ((p0 &&& (2147483647 : Int32)) / (13 : Int32)) * (13 : Int32)) w_OCTET_STRING w_INTEGER32 w_INTEGER64 w_UNSIGNED32 w_UNSIGNED64 w_GROUPED w_ADDRESS w_TIME w_UTF8_STRING w_DIAMETER_IDENTITY w_DIAMETER_URI w_ENUMERATED w_IP_FILTER_RULE)), .val (.int (own_f2_0 t24_0 (own_fx ((p0 &&& (2147483647 : Int32)) - ((p0 &&& (2147483647 : Int32)) / (13 : Int32)) * (13 : Int32))) (own_mn ((p0 &&& (2147483647 : Int32)) - ((p0 &&& (2147483647 : Int32)) / (13 : Int32)) * (13 : Int32))))), .val (.int (own_f3_0 ((p0 &&& (2147483647 : Int32)) - ((p0 &&& (2147483647 : Int32)) / (13 : Int32)) * (13 : Int32)))), .val (.int v72_8)] [(.int v72_8), (.int (own_f2_0 t24_0 (own_fx ((p0 &&& (2147483647 : Int32)) - ((p0 &&& (2147483647 : Int32)) / (13 : Int32)) * (13 : Int32))) (own_mn ((p0 &&& (2147483647 : Int32)) - ((p0 &&& (2147483647 : Int32)) / (13 : Int32)) * (13 : Int32)))))])) t
          refine XS.icmpYes X72j.here hx rfl (pc0 := 76) (pc' := 83) rfl (hb hby at_76) rfl (feq hc76).2 (by decide) (by decide) ?_
          show Steps p.tables e below (T72j.setTop (mkF m 83 #[.val (.int p0), .val (.int p1), .val (.int p2), .val (.int ((p0 &&& (2147483647 : Int32)) - ((p0 &&& (2147483647 : Int32)) / (13 : Int32)) * (13 : Int32))), .val (.int t24_0), .val (.ref (own_f1_0 ((p0 &&& (2147483647 : Int32)) - ((p0 &&& (2147483647 : Int32)) / (13 : Int32)) * (13 : Int32)) w_OCTET_STRING w_INTEGER32 w_INTEGER64 w_UNSIGNED32 w_UNSIGNED64 w_GROUPED w_ADDRESS w_TIME w_UTF8_STRING w_DIAMETER_IDENTITY w_DIAMETER_URI w_ENUMERATED w_IP_FILTER_RULE)), .val (.int (own_f2_0 t24_0 (own_fx ((p0 &&& (2147483647 : Int32)) - ((p0 &&& (2147483647 : Int32)) / (13 : Int32)) * (13 : Int32))) (own_mn ((p0 &&& (2147483647 : Int32)) - ((p0 &&& (2147483647 : Int32)) / (13 : Int32)) * (13 : Int32))))), .val (.int (own_f3_0 ((p0 &&& (2147483647 : Int32)) - ((p0 &&& (2147483647 : Int32)) / (13 : Int32)) * (13 : Int32)))), .val (.int v72_8)] [])) t
          exact k
        rw [show own_f0_72 p0 v72_8 t24_0 = (0 : Int32) from (by rw [own_f0_72, if_neg hc76])]
        refine Owe.ret X72j Bd.notSynchronized (v := (some (.int (0 : Int32)))) (fun h => by rw [Bd.returns] at h; cases h) (fun fs hr => ?_) ⟨rfl, N72j⟩ (by decide) (by decide)
        show Steps p.tables e below (T72j.setTop (mkF m 83 #[.val (.int p0), .val (.int p1), .val (.int p2), .val (.int ((p0 &&& (2147483647 : Int32)) - ((p0 &&& (2147483647 : Int32)) / (13 : Int32)) * (13 : Int32))), .val (.int t24_0), .val (.ref (own_f1_0 ((p0 &&& (2147483647 : Int32)) - ((p0 &&& (2147483647 : Int32)) / (13 : Int32)) * (13 : Int32)) w_OCTET_STRING w_INTEGER32 w_INTEGER64 w_UNSIGNED32 w_UNSIGNED64 w_GROUPED w_ADDRESS w_TIME w_UTF8_STRING w_DIAMETER_IDENTITY w_DIAMETER_URI w_ENUMERATED w_IP_FILTER_RULE)), .val (.int (own_f2_0 t24_0 (own_fx ((p0 &&& (2147483647 : Int32)) - ((p0 &&& (2147483647 : Int32)) / (13 : Int32)) * (13 : Int32))) (own_mn ((p0 &&& (2147483647 : Int32)) - ((p0 &&& (2147483647 : Int32)) / (13 : Int32)) * (13 : Int32))))), .val (.int (own_f3_0 ((p0 &&& (2147483647 : Int32)) - ((p0 &&& (2147483647 : Int32)) / (13 : Int32)) * (13 : Int32)))), .val (.int v72_8)] [])) _
        refine XS.iconst X72j.here hx rfl (hb hby at_83) ?_
        show Steps p.tables e below (T72j.setTop (mkF m 84 #[.val (.int p0), .val (.int p1), .val (.int p2), .val (.int ((p0 &&& (2147483647 : Int32)) - ((p0 &&& (2147483647 : Int32)) / (13 : Int32)) * (13 : Int32))), .val (.int t24_0), .val (.ref (own_f1_0 ((p0 &&& (2147483647 : Int32)) - ((p0 &&& (2147483647 : Int32)) / (13 : Int32)) * (13 : Int32)) w_OCTET_STRING w_INTEGER32 w_INTEGER64 w_UNSIGNED32 w_UNSIGNED64 w_GROUPED w_ADDRESS w_TIME w_UTF8_STRING w_DIAMETER_IDENTITY w_DIAMETER_URI w_ENUMERATED w_IP_FILTER_RULE)), .val (.int (own_f2_0 t24_0 (own_fx ((p0 &&& (2147483647 : Int32)) - ((p0 &&& (2147483647 : Int32)) / (13 : Int32)) * (13 : Int32))) (own_mn ((p0 &&& (2147483647 : Int32)) - ((p0 &&& (2147483647 : Int32)) / (13 : Int32)) * (13 : Int32))))), .val (.int (own_f3_0 ((p0 &&& (2147483647 : Int32)) - ((p0 &&& (2147483647 : Int32)) / (13 : Int32)) * (13 : Int32)))), .val (.int v72_8)] [(.int (0 : Int32))])) _
        exact retN X72j hx (t := .boolean) Bd.returns (by simp) (hb hby at_84) hr
    by_cases hc49 : (own_f3_0 ((p0 &&& (2147483647 : Int32)) - ((p0 &&& (2147483647 : Int32)) / (13 : Int32)) * (13 : Int32))) = (0 : Int32)
    · refine Owe.step (T' := T3) (g' := (mkF m 52 #[.val (.int p0), .val (.int p1), .val (.int p2), .val (.int ((p0 &&& (2147483647 : Int32)) - ((p0 &&& (2147483647 : Int32)) / (13 : Int32)) * (13 : Int32))), .val (.int t24_0), .val (.ref (own_f1_0 ((p0 &&& (2147483647 : Int32)) - ((p0 &&& (2147483647 : Int32)) / (13 : Int32)) * (13 : Int32)) w_OCTET_STRING w_INTEGER32 w_INTEGER64 w_UNSIGNED32 w_UNSIGNED64 w_GROUPED w_ADDRESS w_TIME w_UTF8_STRING w_DIAMETER_IDENTITY w_DIAMETER_URI w_ENUMERATED w_IP_FILTER_RULE)), .val (.int (own_f2_0 t24_0 (own_fx ((p0 &&& (2147483647 : Int32)) - ((p0 &&& (2147483647 : Int32)) / (13 : Int32)) * (13 : Int32))) (own_mn ((p0 &&& (2147483647 : Int32)) - ((p0 &&& (2147483647 : Int32)) / (13 : Int32)) * (13 : Int32))))), .val (.int (own_f3_0 ((p0 &&& (2147483647 : Int32)) - ((p0 &&& (2147483647 : Int32)) / (13 : Int32)) * (13 : Int32)))), .unset] [])) (fun t k => ?_) ?_
      · show Steps p.tables e below (T3.setTop (mkF m 49 #[.val (.int p0), .val (.int p1), .val (.int p2), .val (.int ((p0 &&& (2147483647 : Int32)) - ((p0 &&& (2147483647 : Int32)) / (13 : Int32)) * (13 : Int32))), .val (.int t24_0), .val (.ref (own_f1_0 ((p0 &&& (2147483647 : Int32)) - ((p0 &&& (2147483647 : Int32)) / (13 : Int32)) * (13 : Int32)) w_OCTET_STRING w_INTEGER32 w_INTEGER64 w_UNSIGNED32 w_UNSIGNED64 w_GROUPED w_ADDRESS w_TIME w_UTF8_STRING w_DIAMETER_IDENTITY w_DIAMETER_URI w_ENUMERATED w_IP_FILTER_RULE)), .val (.int (own_f2_0 t24_0 (own_fx ((p0 &&& (2147483647 : Int32)) - ((p0 &&& (2147483647 : Int32)) / (13 : Int32)) * (13 : Int32))) (own_mn ((p0 &&& (2147483647 : Int32)) - ((p0 &&& (2147483647 : Int32)) / (13 : Int32)) * (13 : Int32))))), .val (.int (own_f3_0 ((p0 &&& (2147483647 : Int32)) - ((p0 &&& (2147483647 : Int32)) / (13 : Int32)) * (13 : Int32)))), .unset] [(.int (own_f3_0 ((p0 &&& (2147483647 : Int32)) - ((p0 &&& (2147483647 : Int32)) / (13 : Int32)) * (13 : Int32))))])) t
        refine XS.ifNo X3.here hx rfl (hb hby at_49) rfl ((if0 _ _).trans (teq hc49).2) ?_
        show Steps p.tables e below (T3.setTop (mkF m 52 #[.val (.int p0), .val (.int p1), .val (.int p2), .val (.int ((p0 &&& (2147483647 : Int32)) - ((p0 &&& (2147483647 : Int32)) / (13 : Int32)) * (13 : Int32))), .val (.int t24_0), .val (.ref (own_f1_0 ((p0 &&& (2147483647 : Int32)) - ((p0 &&& (2147483647 : Int32)) / (13 : Int32)) * (13 : Int32)) w_OCTET_STRING w_INTEGER32 w_INTEGER64 w_UNSIGNED32 w_UNSIGNED64 w_GROUPED w_ADDRESS w_TIME w_UTF8_STRING w_DIAMETER_IDENTITY w_DIAMETER_URI w_ENUMERATED w_IP_FILTER_RULE)), .val (.int (own_f2_0 t24_0 (own_fx ((p0 &&& (2147483647 : Int32)) - ((p0 &&& (2147483647 : Int32)) / (13 : Int32)) * (13 : Int32))) (own_mn ((p0 &&& (2147483647 : Int32)) - ((p0 &&& (2147483647 : Int32)) / (13 : Int32)) * (13 : Int32))))), .val (.int (own_f3_0 ((p0 &&& (2147483647 : Int32)) - ((p0 &&& (2147483647 : Int32)) / (13 : Int32)) * (13 : Int32)))), .unset] [])) t
        exact k
      refine Owe.step (T' := T3) (g' := (mkF m 72 #[.val (.int p0), .val (.int p1), .val (.int p2), .val (.int ((p0 &&& (2147483647 : Int32)) - ((p0 &&& (2147483647 : Int32)) / (13 : Int32)) * (13 : Int32))), .val (.int t24_0), .val (.ref (own_f1_0 ((p0 &&& (2147483647 : Int32)) - ((p0 &&& (2147483647 : Int32)) / (13 : Int32)) * (13 : Int32)) w_OCTET_STRING w_INTEGER32 w_INTEGER64 w_UNSIGNED32 w_UNSIGNED64 w_GROUPED w_ADDRESS w_TIME w_UTF8_STRING w_DIAMETER_IDENTITY w_DIAMETER_URI w_ENUMERATED w_IP_FILTER_RULE)), .val (.int (own_f2_0 t24_0 (own_fx ((p0 &&& (2147483647 : Int32)) - ((p0 &&& (2147483647 : Int32)) / (13 : Int32)) * (13 : Int32))) (own_mn ((p0 &&& (2147483647 : Int32)) - ((p0 &&& (2147483647 : Int32)) / (13 : Int32)) * (13 : Int32))))), .val (.int (own_f3_0 ((p0 &&& (2147483647 : Int32)) - ((p0 &&& (2147483647 : Int32)) / (13 : Int32)) * (13 : Int32)))), .val (.int (1 : Int32))] [])) (fun t k => ?_) ?_
      · show Steps p.tables e below (T3.setTop (mkF m 52 #[.val (.int p0), .val (.int p1), .val (.int p2), .val (.int ((p0 &&& (2147483647 : Int32)) - ((p0 &&& (2147483647 : Int32)) / (13 : Int32)) * (13 : Int32))), .val (.int t24_0), .val (.ref (own_f1_0 ((p0 &&& (2147483647 : Int32)) - ((p0 &&& (2147483647 : Int32)) / (13 : Int32)) * (13 : Int32)) w_OCTET_STRING w_INTEGER32 w_INTEGER64 w_UNSIGNED32 w_UNSIGNED64 w_GROUPED w_ADDRESS w_TIME w_UTF8_STRING w_DIAMETER_IDENTITY w_DIAMETER_URI w_ENUMERATED w_IP_FILTER_RULE)), .val (.int (own_f2_0 t24_0 (own_fx ((p0 &&& (2147483647 : Int32)) - ((p0 &&& (2147483647 : Int32)) / (13 : Int32)) * (13 : Int32))) (own_mn ((p0 &&& (2147483647 : Int32)) - ((p0 &&& (2147483647 : Int32)) / (13 : Int32)) * (13 : Int32))))), .val (.int (own_f3_0 ((p0 &&& (2147483647 : Int32)) - ((p0 &&& (2147483647 : Int32)) / (13 : Int32)) * (13 : Int32)))), .unset] [])) t
        refine XS.iconst X3.here hx rfl (hb hby at_52) ?_
        show Steps p.tables e below (T3.setTop (mkF m 53 #[.val (.int p0), .val (.int p1), .val (.int p2), .val (.int ((p0 &&& (2147483647 : Int32)) - ((p0 &&& (2147483647 : Int32)) / (13 : Int32)) * (13 : Int32))), .val (.int t24_0), .val (.ref (own_f1_0 ((p0 &&& (2147483647 : Int32)) - ((p0 &&& (2147483647 : Int32)) / (13 : Int32)) * (13 : Int32)) w_OCTET_STRING w_INTEGER32 w_INTEGER64 w_UNSIGNED32 w_UNSIGNED64 w_GROUPED w_ADDRESS w_TIME w_UTF8_STRING w_DIAMETER_IDENTITY w_DIAMETER_URI w_ENUMERATED w_IP_FILTER_RULE)), .val (.int (own_f2_0 t24_0 (own_fx ((p0 &&& (2147483647 : Int32)) - ((p0 &&& (2147483647 : Int32)) / (13 : Int32)) * (13 : Int32))) (own_mn ((p0 &&& (2147483647 : Int32)) - ((p0 &&& (2147483647 : Int32)) / (13 : Int32)) * (13 : Int32))))), .val (.int (own_f3_0 ((p0 &&& (2147483647 : Int32)) - ((p0 &&& (2147483647 : Int32)) / (13 : Int32)) * (13 : Int32)))), .unset] [(.int (1 : Int32))])) t
        refine XS.istore X3.here hx rfl (hb hby at_53) rfl (l' := #[.val (.int p0), .val (.int p1), .val (.int p2), .val (.int ((p0 &&& (2147483647 : Int32)) - ((p0 &&& (2147483647 : Int32)) / (13 : Int32)) * (13 : Int32))), .val (.int t24_0), .val (.ref (own_f1_0 ((p0 &&& (2147483647 : Int32)) - ((p0 &&& (2147483647 : Int32)) / (13 : Int32)) * (13 : Int32)) w_OCTET_STRING w_INTEGER32 w_INTEGER64 w_UNSIGNED32 w_UNSIGNED64 w_GROUPED w_ADDRESS w_TIME w_UTF8_STRING w_DIAMETER_IDENTITY w_DIAMETER_URI w_ENUMERATED w_IP_FILTER_RULE)), .val (.int (own_f2_0 t24_0 (own_fx ((p0 &&& (2147483647 : Int32)) - ((p0 &&& (2147483647 : Int32)) / (13 : Int32)) * (13 : Int32))) (own_mn ((p0 &&& (2147483647 : Int32)) - ((p0 &&& (2147483647 : Int32)) / (13 : Int32)) * (13 : Int32))))), .val (.int (own_f3_0 ((p0 &&& (2147483647 : Int32)) - ((p0 &&& (2147483647 : Int32)) / (13 : Int32)) * (13 : Int32)))), .val (.int (1 : Int32))]) rfl ?_
        show Steps p.tables e below (T3.setTop (mkF m 55 #[.val (.int p0), .val (.int p1), .val (.int p2), .val (.int ((p0 &&& (2147483647 : Int32)) - ((p0 &&& (2147483647 : Int32)) / (13 : Int32)) * (13 : Int32))), .val (.int t24_0), .val (.ref (own_f1_0 ((p0 &&& (2147483647 : Int32)) - ((p0 &&& (2147483647 : Int32)) / (13 : Int32)) * (13 : Int32)) w_OCTET_STRING w_INTEGER32 w_INTEGER64 w_UNSIGNED32 w_UNSIGNED64 w_GROUPED w_ADDRESS w_TIME w_UTF8_STRING w_DIAMETER_IDENTITY w_DIAMETER_URI w_ENUMERATED w_IP_FILTER_RULE)), .val (.int (own_f2_0 t24_0 (own_fx ((p0 &&& (2147483647 : Int32)) - ((p0 &&& (2147483647 : Int32)) / (13 : Int32)) * (13 : Int32))) (own_mn ((p0 &&& (2147483647 : Int32)) - ((p0 &&& (2147483647 : Int32)) / (13 : Int32)) * (13 : Int32))))), .val (.int (own_f3_0 ((p0 &&& (2147483647 : Int32)) - ((p0 &&& (2147483647 : Int32)) / (13 : Int32)) * (13 : Int32)))), .val (.int (1 : Int32))] [])) t
        refine XS.goto X3.here hx rfl (pc0 := 55) (pc' := 72) rfl (hb hby at_55) (by decide) (by decide) ?_
        show Steps p.tables e below (T3.setTop (mkF m 72 #[.val (.int p0), .val (.int p1), .val (.int p2), .val (.int ((p0 &&& (2147483647 : Int32)) - ((p0 &&& (2147483647 : Int32)) / (13 : Int32)) * (13 : Int32))), .val (.int t24_0), .val (.ref (own_f1_0 ((p0 &&& (2147483647 : Int32)) - ((p0 &&& (2147483647 : Int32)) / (13 : Int32)) * (13 : Int32)) w_OCTET_STRING w_INTEGER32 w_INTEGER64 w_UNSIGNED32 w_UNSIGNED64 w_GROUPED w_ADDRESS w_TIME w_UTF8_STRING w_DIAMETER_IDENTITY w_DIAMETER_URI w_ENUMERATED w_IP_FILTER_RULE)), .val (.int (own_f2_0 t24_0 (own_fx ((p0 &&& (2147483647 : Int32)) - ((p0 &&& (2147483647 : Int32)) / (13 : Int32)) * (13 : Int32))) (own_mn ((p0 &&& (2147483647 : Int32)) - ((p0 &&& (2147483647 : Int32)) / (13 : Int32)) * (13 : Int32))))), .val (.int (own_f3_0 ((p0 &&& (2147483647 : Int32)) - ((p0 &&& (2147483647 : Int32)) / (13 : Int32)) * (13 : Int32)))), .val (.int (1 : Int32))] [])) t
        exact k
      rw [show own_f0_24 p0 t24_0 = (own_f0_72 p0 (1 : Int32) t24_0) from (by rw [own_f0_24, if_pos hc49])]
      exact j72 T3 _ X3 e3 N3 (1 : Int32)
    · refine Owe.step (T' := T3) (g' := (mkF m 58 #[.val (.int p0), .val (.int p1), .val (.int p2), .val (.int ((p0 &&& (2147483647 : Int32)) - ((p0 &&& (2147483647 : Int32)) / (13 : Int32)) * (13 : Int32))), .val (.int t24_0), .val (.ref (own_f1_0 ((p0 &&& (2147483647 : Int32)) - ((p0 &&& (2147483647 : Int32)) / (13 : Int32)) * (13 : Int32)) w_OCTET_STRING w_INTEGER32 w_INTEGER64 w_UNSIGNED32 w_UNSIGNED64 w_GROUPED w_ADDRESS w_TIME w_UTF8_STRING w_DIAMETER_IDENTITY w_DIAMETER_URI w_ENUMERATED w_IP_FILTER_RULE)), .val (.int (own_f2_0 t24_0 (own_fx ((p0 &&& (2147483647 : Int32)) - ((p0 &&& (2147483647 : Int32)) / (13 : Int32)) * (13 : Int32))) (own_mn ((p0 &&& (2147483647 : Int32)) - ((p0 &&& (2147483647 : Int32)) / (13 : Int32)) * (13 : Int32))))), .val (.int (own_f3_0 ((p0 &&& (2147483647 : Int32)) - ((p0 &&& (2147483647 : Int32)) / (13 : Int32)) * (13 : Int32)))), .unset] [])) (fun t k => ?_) ?_
      · show Steps p.tables e below (T3.setTop (mkF m 49 #[.val (.int p0), .val (.int p1), .val (.int p2), .val (.int ((p0 &&& (2147483647 : Int32)) - ((p0 &&& (2147483647 : Int32)) / (13 : Int32)) * (13 : Int32))), .val (.int t24_0), .val (.ref (own_f1_0 ((p0 &&& (2147483647 : Int32)) - ((p0 &&& (2147483647 : Int32)) / (13 : Int32)) * (13 : Int32)) w_OCTET_STRING w_INTEGER32 w_INTEGER64 w_UNSIGNED32 w_UNSIGNED64 w_GROUPED w_ADDRESS w_TIME w_UTF8_STRING w_DIAMETER_IDENTITY w_DIAMETER_URI w_ENUMERATED w_IP_FILTER_RULE)), .val (.int (own_f2_0 t24_0 (own_fx ((p0 &&& (2147483647 : Int32)) - ((p0 &&& (2147483647 : Int32)) / (13 : Int32)) * (13 : Int32))) (own_mn ((p0 &&& (2147483647 : Int32)) - ((p0 &&& (2147483647 : Int32)) / (13 : Int32)) * (13 : Int32))))), .val (.int (own_f3_0 ((p0 &&& (2147483647 : Int32)) - ((p0 &&& (2147483647 : Int32)) / (13 : Int32)) * (13 : Int32)))), .unset] [(.int (own_f3_0 ((p0 &&& (2147483647 : Int32)) - ((p0 &&& (2147483647 : Int32)) / (13 : Int32)) * (13 : Int32))))])) t
        refine XS.ifYes X3.here hx rfl (pc0 := 49) (pc' := 58) rfl (hb hby at_49) rfl ((if0 _ _).trans (feq hc49).2) (by decide) (by decide) ?_
        show Steps p.tables e below (T3.setTop (mkF m 58 #[.val (.int p0), .val (.int p1), .val (.int p2), .val (.int ((p0 &&& (2147483647 : Int32)) - ((p0 &&& (2147483647 : Int32)) / (13 : Int32)) * (13 : Int32))), .val (.int t24_0), .val (.ref (own_f1_0 ((p0 &&& (2147483647 : Int32)) - ((p0 &&& (2147483647 : Int32)) / (13 : Int32)) * (13 : Int32)) w_OCTET_STRING w_INTEGER32 w_INTEGER64 w_UNSIGNED32 w_UNSIGNED64 w_GROUPED w_ADDRESS w_TIME w_UTF8_STRING w_DIAMETER_IDENTITY w_DIAMETER_URI w_ENUMERATED w_IP_FILTER_RULE)), .val (.int (own_f2_0 t24_0 (own_fx ((p0 &&& (2147483647 : Int32)) - ((p0 &&& (2147483647 : Int32)) / (13 : Int32)) * (13 : Int32))) (own_mn ((p0 &&& (2147483647 : Int32)) - ((p0 &&& (2147483647 : Int32)) / (13 : Int32)) * (13 : Int32))))), .val (.int (own_f3_0 ((p0 &&& (2147483647 : Int32)) - ((p0 &&& (2147483647 : Int32)) / (13 : Int32)) * (13 : Int32)))), .unset] [])) t
        exact k
      refine Owe.step (T' := T3) (g' := (mkF m 62 #[.val (.int p0), .val (.int p1), .val (.int p2), .val (.int ((p0 &&& (2147483647 : Int32)) - ((p0 &&& (2147483647 : Int32)) / (13 : Int32)) * (13 : Int32))), .val (.int t24_0), .val (.ref (own_f1_0 ((p0 &&& (2147483647 : Int32)) - ((p0 &&& (2147483647 : Int32)) / (13 : Int32)) * (13 : Int32)) w_OCTET_STRING w_INTEGER32 w_INTEGER64 w_UNSIGNED32 w_UNSIGNED64 w_GROUPED w_ADDRESS w_TIME w_UTF8_STRING w_DIAMETER_IDENTITY w_DIAMETER_URI w_ENUMERATED w_IP_FILTER_RULE)), .val (.int (own_f2_0 t24_0 (own_fx ((p0 &&& (2147483647 : Int32)) - ((p0 &&& (2147483647 : Int32)) / (13 : Int32)) * (13 : Int32))) (own_mn ((p0 &&& (2147483647 : Int32)) - ((p0 &&& (2147483647 : Int32)) / (13 : Int32)) * (13 : Int32))))), .val (.int (own_f3_0 ((p0 &&& (2147483647 : Int32)) - ((p0 &&& (2147483647 : Int32)) / (13 : Int32)) * (13 : Int32)))), .unset] [(.int (own_f3_0 ((p0 &&& (2147483647 : Int32)) - ((p0 &&& (2147483647 : Int32)) / (13 : Int32)) * (13 : Int32)))), (.int t24_0)])) (fun t k => ?_) ?_
      · show Steps p.tables e below (T3.setTop (mkF m 58 #[.val (.int p0), .val (.int p1), .val (.int p2), .val (.int ((p0 &&& (2147483647 : Int32)) - ((p0 &&& (2147483647 : Int32)) / (13 : Int32)) * (13 : Int32))), .val (.int t24_0), .val (.ref (own_f1_0 ((p0 &&& (2147483647 : Int32)) - ((p0 &&& (2147483647 : Int32)) / (13 : Int32)) * (13 : Int32)) w_OCTET_STRING w_INTEGER32 w_INTEGER64 w_UNSIGNED32 w_UNSIGNED64 w_GROUPED w_ADDRESS w_TIME w_UTF8_STRING w_DIAMETER_IDENTITY w_DIAMETER_URI w_ENUMERATED w_IP_FILTER_RULE)), .val (.int (own_f2_0 t24_0 (own_fx ((p0 &&& (2147483647 : Int32)) - ((p0 &&& (2147483647 : Int32)) / (13 : Int32)) * (13 : Int32))) (own_mn ((p0 &&& (2147483647 : Int32)) - ((p0 &&& (2147483647 : Int32)) / (13 : Int32)) * (13 : Int32))))), .val (.int (own_f3_0 ((p0 &&& (2147483647 : Int32)) - ((p0 &&& (2147483647 : Int32)) / (13 : Int32)) * (13 : Int32)))), .unset] [])) t
        refine XS.iload X3.here hx rfl (hb hby at_58) rfl ?_
        show Steps p.tables e below (T3.setTop (mkF m 60 #[.val (.int p0), .val (.int p1), .val (.int p2), .val (.int ((p0 &&& (2147483647 : Int32)) - ((p0 &&& (2147483647 : Int32)) / (13 : Int32)) * (13 : Int32))), .val (.int t24_0), .val (.ref (own_f1_0 ((p0 &&& (2147483647 : Int32)) - ((p0 &&& (2147483647 : Int32)) / (13 : Int32)) * (13 : Int32)) w_OCTET_STRING w_INTEGER32 w_INTEGER64 w_UNSIGNED32 w_UNSIGNED64 w_GROUPED w_ADDRESS w_TIME w_UTF8_STRING w_DIAMETER_IDENTITY w_DIAMETER_URI w_ENUMERATED w_IP_FILTER_RULE)), .val (.int (own_f2_0 t24_0 (own_fx ((p0 &&& (2147483647 : Int32)) - ((p0 &&& (2147483647 : Int32)) / (13 : Int32)) * (13 : Int32))) (own_mn ((p0 &&& (2147483647 : Int32)) - ((p0 &&& (2147483647 : Int32)) / (13 : Int32)) * (13 : Int32))))), .val (.int (own_f3_0 ((p0 &&& (2147483647 : Int32)) - ((p0 &&& (2147483647 : Int32)) / (13 : Int32)) * (13 : Int32)))), .unset] [(.int t24_0)])) t
        refine XS.iload X3.here hx rfl (hb hby at_60) rfl ?_
        show Steps p.tables e below (T3.setTop (mkF m 62 #[.val (.int p0), .val (.int p1), .val (.int p2), .val (.int ((p0 &&& (2147483647 : Int32)) - ((p0 &&& (2147483647 : Int32)) / (13 : Int32)) * (13 : Int32))), .val (.int t24_0), .val (.ref (own_f1_0 ((p0 &&& (2147483647 : Int32)) - ((p0 &&& (2147483647 : Int32)) / (13 : Int32)) * (13 : Int32)) w_OCTET_STRING w_INTEGER32 w_INTEGER64 w_UNSIGNED32 w_UNSIGNED64 w_GROUPED w_ADDRESS w_TIME w_UTF8_STRING w_DIAMETER_IDENTITY w_DIAMETER_URI w_ENUMERATED w_IP_FILTER_RULE)), .val (.int (own_f2_0 t24_0 (own_fx ((p0 &&& (2147483647 : Int32)) - ((p0 &&& (2147483647 : Int32)) / (13 : Int32)) * (13 : Int32))) (own_mn ((p0 &&& (2147483647 : Int32)) - ((p0 &&& (2147483647 : Int32)) / (13 : Int32)) * (13 : Int32))))), .val (.int (own_f3_0 ((p0 &&& (2147483647 : Int32)) - ((p0 &&& (2147483647 : Int32)) / (13 : Int32)) * (13 : Int32)))), .unset] [(.int (own_f3_0 ((p0 &&& (2147483647 : Int32)) - ((p0 &&& (2147483647 : Int32)) / (13 : Int32)) * (13 : Int32)))), (.int t24_0)])) t
        exact k
      have j70 : ∀ (T : State) (Lc : List Loc) (X : Stand p l e room_1 s m #[(.int p0), (.int p1), (.int p2)] below meth c T Lc 0 0) (eT : T.heap = h0) (N : Fr n0 Lc) (t70_0 : Int32), Owe p e below s 0 0 (QL (.int (own_f0_70 p0 t70_0 t24_0)) n0) T (mkF m 70 #[.val (.int p0), .val (.int p1), .val (.int p2), .val (.int ((p0 &&& (2147483647 : Int32)) - ((p0 &&& (2147483647 : Int32)) / (13 : Int32)) * (13 : Int32))), .val (.int t24_0), .val (.ref (own_f1_0 ((p0 &&& (2147483647 : Int32)) - ((p0 &&& (2147483647 : Int32)) / (13 : Int32)) * (13 : Int32)) w_OCTET_STRING w_INTEGER32 w_INTEGER64 w_UNSIGNED32 w_UNSIGNED64 w_GROUPED w_ADDRESS w_TIME w_UTF8_STRING w_DIAMETER_IDENTITY w_DIAMETER_URI w_ENUMERATED w_IP_FILTER_RULE)), .val (.int (own_f2_0 t24_0 (own_fx ((p0 &&& (2147483647 : Int32)) - ((p0 &&& (2147483647 : Int32)) / (13 : Int32)) * (13 : Int32))) (own_mn ((p0 &&& (2147483647 : Int32)) - ((p0 &&& (2147483647 : Int32)) / (13 : Int32)) * (13 : Int32))))), .val (.int (own_f3_0 ((p0 &&& (2147483647 : Int32)) - ((p0 &&& (2147483647 : Int32)) / (13 : Int32)) * (13 : Int32)))), .unset] [(.int t70_0)]) := by
        intro T70j Lc70j X70j e70j N70j t70_0
        refine Owe.step (T' := T70j) (g' := (mkF m 72 #[.val (.int p0), .val (.int p1), .val (.int p2), .val (.int ((p0 &&& (2147483647 : Int32)) - ((p0 &&& (2147483647 : Int32)) / (13 : Int32)) * (13 : Int32))), .val (.int t24_0), .val (.ref (own_f1_0 ((p0 &&& (2147483647 : Int32)) - ((p0 &&& (2147483647 : Int32)) / (13 : Int32)) * (13 : Int32)) w_OCTET_STRING w_INTEGER32 w_INTEGER64 w_UNSIGNED32 w_UNSIGNED64 w_GROUPED w_ADDRESS w_TIME w_UTF8_STRING w_DIAMETER_IDENTITY w_DIAMETER_URI w_ENUMERATED w_IP_FILTER_RULE)), .val (.int (own_f2_0 t24_0 (own_fx ((p0 &&& (2147483647 : Int32)) - ((p0 &&& (2147483647 : Int32)) / (13 : Int32)) * (13 : Int32))) (own_mn ((p0 &&& (2147483647 : Int32)) - ((p0 &&& (2147483647 : Int32)) / (13 : Int32)) * (13 : Int32))))), .val (.int (own_f3_0 ((p0 &&& (2147483647 : Int32)) - ((p0 &&& (2147483647 : Int32)) / (13 : Int32)) * (13 : Int32)))), .val (.int t70_0)] [])) (fun t k => ?_) ?_
        · show Steps p.tables e below (T70j.setTop (mkF m 70 #[.val (.int p0), .val (.int p1), .val (.int p2), .val (.int ((p0 &&& (2147483647 : Int32)) - ((p0 &&& (2147483647 : Int32)) / (13 : Int32)) * (13 : Int32))), .val (.int t24_0), .val (.ref (own_f1_0 ((p0 &&& (2147483647 : Int32)) - ((p0 &&& (2147483647 : Int32)) / (13 : Int32)) * (13 : Int32)) w_OCTET_STRING w_INTEGER32 w_INTEGER64 w_UNSIGNED32 w_UNSIGNED64 w_GROUPED w_ADDRESS w_TIME w_UTF8_STRING w_DIAMETER_IDENTITY w_DIAMETER_URI w_ENUMERATED w_IP_FILTER_RULE)), .val (.int (own_f2_0 t24_0 (own_fx ((p0 &&& (2147483647 : Int32)) - ((p0 &&& (2147483647 : Int32)) / (13 : Int32)) * (13 : Int32))) (own_mn ((p0 &&& (2147483647 : Int32)) - ((p0 &&& (2147483647 : Int32)) / (13 : Int32)) * (13 : Int32))))), .val (.int (own_f3_0 ((p0 &&& (2147483647 : Int32)) - ((p0 &&& (2147483647 : Int32)) / (13 : Int32)) * (13 : Int32)))), .unset] [(.int t70_0)])) t
          refine XS.istore X70j.here hx rfl (hb hby at_70) rfl (l' := #[.val (.int p0), .val (.int p1), .val (.int p2), .val (.int ((p0 &&& (2147483647 : Int32)) - ((p0 &&& (2147483647 : Int32)) / (13 : Int32)) * (13 : Int32))), .val (.int t24_0), .val (.ref (own_f1_0 ((p0 &&& (2147483647 : Int32)) - ((p0 &&& (2147483647 : Int32)) / (13 : Int32)) * (13 : Int32)) w_OCTET_STRING w_INTEGER32 w_INTEGER64 w_UNSIGNED32 w_UNSIGNED64 w_GROUPED w_ADDRESS w_TIME w_UTF8_STRING w_DIAMETER_IDENTITY w_DIAMETER_URI w_ENUMERATED w_IP_FILTER_RULE)), .val (.int (own_f2_0 t24_0 (own_fx ((p0 &&& (2147483647 : Int32)) - ((p0 &&& (2147483647 : Int32)) / (13 : Int32)) * (13 : Int32))) (own_mn ((p0 &&& (2147483647 : Int32)) - ((p0 &&& (2147483647 : Int32)) / (13 : Int32)) * (13 : Int32))))), .val (.int (own_f3_0 ((p0 &&& (2147483647 : Int32)) - ((p0 &&& (2147483647 : Int32)) / (13 : Int32)) * (13 : Int32)))), .val (.int t70_0)]) rfl ?_
          show Steps p.tables e below (T70j.setTop (mkF m 72 #[.val (.int p0), .val (.int p1), .val (.int p2), .val (.int ((p0 &&& (2147483647 : Int32)) - ((p0 &&& (2147483647 : Int32)) / (13 : Int32)) * (13 : Int32))), .val (.int t24_0), .val (.ref (own_f1_0 ((p0 &&& (2147483647 : Int32)) - ((p0 &&& (2147483647 : Int32)) / (13 : Int32)) * (13 : Int32)) w_OCTET_STRING w_INTEGER32 w_INTEGER64 w_UNSIGNED32 w_UNSIGNED64 w_GROUPED w_ADDRESS w_TIME w_UTF8_STRING w_DIAMETER_IDENTITY w_DIAMETER_URI w_ENUMERATED w_IP_FILTER_RULE)), .val (.int (own_f2_0 t24_0 (own_fx ((p0 &&& (2147483647 : Int32)) - ((p0 &&& (2147483647 : Int32)) / (13 : Int32)) * (13 : Int32))) (own_mn ((p0 &&& (2147483647 : Int32)) - ((p0 &&& (2147483647 : Int32)) / (13 : Int32)) * (13 : Int32))))), .val (.int (own_f3_0 ((p0 &&& (2147483647 : Int32)) - ((p0 &&& (2147483647 : Int32)) / (13 : Int32)) * (13 : Int32)))), .val (.int t70_0)] [])) t
          exact k
        rw [show own_f0_70 p0 t70_0 t24_0 = (own_f0_72 p0 t70_0 t24_0) from rfl]
        exact j72 T70j _ X70j e70j N70j t70_0
      by_cases hc62 : t24_0 = (own_f3_0 ((p0 &&& (2147483647 : Int32)) - ((p0 &&& (2147483647 : Int32)) / (13 : Int32)) * (13 : Int32)))
      · refine Owe.step (T' := T3) (g' := (mkF m 65 #[.val (.int p0), .val (.int p1), .val (.int p2), .val (.int ((p0 &&& (2147483647 : Int32)) - ((p0 &&& (2147483647 : Int32)) / (13 : Int32)) * (13 : Int32))), .val (.int t24_0), .val (.ref (own_f1_0 ((p0 &&& (2147483647 : Int32)) - ((p0 &&& (2147483647 : Int32)) / (13 : Int32)) * (13 : Int32)) w_OCTET_STRING w_INTEGER32 w_INTEGER64 w_UNSIGNED32 w_UNSIGNED64 w_GROUPED w_ADDRESS w_TIME w_UTF8_STRING w_DIAMETER_IDENTITY w_DIAMETER_URI w_ENUMERATED w_IP_FILTER_RULE)), .val (.int (own_f2_0 t24_0 (own_fx ((p0 &&& (2147483647 : Int32)) - ((p0 &&& (2147483647 : Int32)) / (13 : Int32)) * (13 : Int32))) (own_mn ((p0 &&& (2147483647 : Int32)) - ((p0 &&& (2147483647 : Int32)) / (13 : Int32)) * (13 : Int32))))), .val (.int (own_f3_0 ((p0 &&& (2147483647 : Int32)) - ((p0 &&& (2147483647 : Int32)) / (13 : Int32)) * (13 : Int32)))), .unset] [])) (fun t k => ?_) ?_
        · show Steps p.tables e below (T3.setTop (mkF m 62 #[.val (.int p0), .val (.int p1), .val (.int p2), .val (.int ((p0 &&& (2147483647 : Int32)) - ((p0 &&& (2147483647 : Int32)) / (13 : Int32)) * (13 : Int32))), .val (.int t24_0), .val (.ref (own_f1_0 ((p0 &&& (2147483647 : Int32)) - ((p0 &&& (2147483647 : Int32)) / (13 : Int32)) * (13 : Int32)) w_OCTET_STRING w_INTEGER32 w_INTEGER64 w_UNSIGNED32 w_UNSIGNED64 w_GROUPED w_ADDRESS w_TIME w_UTF8_STRING w_DIAMETER_IDENTITY w_DIAMETER_URI w_ENUMERATED w_IP_FILTER_RULE)), .val (.int (own_f2_0 t24_0 (own_fx ((p0 &&& (2147483647 : Int32)) - ((p0 &&& (2147483647 : Int32)) / (13 : Int32)) * (13 : Int32))) (own_mn ((p0 &&& (2147483647 : Int32)) - ((p0 &&& (2147483647 : Int32)) / (13 : Int32)) * (13 : Int32))))), .val (.int (own_f3_0 ((p0 &&& (2147483647 : Int32)) - ((p0 &&& (2147483647 : Int32)) / (13 : Int32)) * (13 : Int32)))), .unset] [(.int (own_f3_0 ((p0 &&& (2147483647 : Int32)) - ((p0 &&& (2147483647 : Int32)) / (13 : Int32)) * (13 : Int32)))), (.int t24_0)])) t
          refine XS.icmpNo X3.here hx rfl (hb hby at_62) rfl (teq hc62).2 ?_
          show Steps p.tables e below (T3.setTop (mkF m 65 #[.val (.int p0), .val (.int p1), .val (.int p2), .val (.int ((p0 &&& (2147483647 : Int32)) - ((p0 &&& (2147483647 : Int32)) / (13 : Int32)) * (13 : Int32))), .val (.int t24_0), .val (.ref (own_f1_0 ((p0 &&& (2147483647 : Int32)) - ((p0 &&& (2147483647 : Int32)) / (13 : Int32)) * (13 : Int32)) w_OCTET_STRING w_INTEGER32 w_INTEGER64 w_UNSIGNED32 w_UNSIGNED64 w_GROUPED w_ADDRESS w_TIME w_UTF8_STRING w_DIAMETER_IDENTITY w_DIAMETER_URI w_ENUMERATED w_IP_FILTER_RULE)), .val (.int (own_f2_0 t24_0 (own_fx ((p0 &&& (2147483647 : Int32)) - ((p0 &&& (2147483647 : Int32)) / (13 : Int32)) * (13 : Int32))) (own_mn ((p0 &&& (2147483647 : Int32)) - ((p0 &&& (2147483647 : Int32)) / (13 : Int32)) * (13 : Int32))))), .val (.int (own_f3_0 ((p0 &&& (2147483647 : Int32)) - ((p0 &&& (2147483647 : Int32)) / (13 : Int32)) * (13 : Int32)))), .unset] [])) t
          exact k
        refine Owe.step (T' := T3) (g' := (mkF m 70 #[.val (.int p0), .val (.int p1), .val (.int p2), .val (.int ((p0 &&& (2147483647 : Int32)) - ((p0 &&& (2147483647 : Int32)) / (13 : Int32)) * (13 : Int32))), .val (.int t24_0), .val (.ref (own_f1_0 ((p0 &&& (2147483647 : Int32)) - ((p0 &&& (2147483647 : Int32)) / (13 : Int32)) * (13 : Int32)) w_OCTET_STRING w_INTEGER32 w_INTEGER64 w_UNSIGNED32 w_UNSIGNED64 w_GROUPED w_ADDRESS w_TIME w_UTF8_STRING w_DIAMETER_IDENTITY w_DIAMETER_URI w_ENUMERATED w_IP_FILTER_RULE)), .val (.int (own_f2_0 t24_0 (own_fx ((p0 &&& (2147483647 : Int32)) - ((p0 &&& (2147483647 : Int32)) / (13 : Int32)) * (13 : Int32))) (own_mn ((p0 &&& (2147483647 : Int32)) - ((p0 &&& (2147483647 : Int32)) / (13 : Int32)) * (13 : Int32))))), .val (.int (own_f3_0 ((p0 &&& (2147483647 : Int32)) - ((p0 &&& (2147483647 : Int32)) / (13 : Int32)) * (13 : Int32)))), .unset] [(.int (1 : Int32))])) (fun t k => ?_) ?_
        · show Steps p.tables e below (T3.setTop (mkF m 65 #[.val (.int p0), .val (.int p1), .val (.int p2), .val (.int ((p0 &&& (2147483647 : Int32)) - ((p0 &&& (2147483647 : Int32)) / (13 : Int32)) * (13 : Int32))), .val (.int t24_0), .val (.ref (own_f1_0 ((p0 &&& (2147483647 : Int32)) - ((p0 &&& (2147483647 : Int32)) / (13 : Int32)) * (13 : Int32)) w_OCTET_STRING w_INTEGER32 w_INTEGER64 w_UNSIGNED32 w_UNSIGNED64 w_GROUPED w_ADDRESS w_TIME w_UTF8_STRING w_DIAMETER_IDENTITY w_DIAMETER_URI w_ENUMERATED w_IP_FILTER_RULE)), .val (.int (own_f2_0 t24_0 (own_fx ((p0 &&& (2147483647 : Int32)) - ((p0 &&& (2147483647 : Int32)) / (13 : Int32)) * (13 : Int32))) (own_mn ((p0 &&& (2147483647 : Int32)) - ((p0 &&& (2147483647 : Int32)) / (13 : Int32)) * (13 : Int32))))), .val (.int (own_f3_0 ((p0 &&& (2147483647 : Int32)) - ((p0 &&& (2147483647 : Int32)) / (13 : Int32)) * (13 : Int32)))), .unset] [])) t
          refine XS.iconst X3.here hx rfl (hb hby at_65) ?_
          show Steps p.tables e below (T3.setTop (mkF m 66 #[.val (.int p0), .val (.int p1), .val (.int p2), .val (.int ((p0 &&& (2147483647 : Int32)) - ((p0 &&& (2147483647 : Int32)) / (13 : Int32)) * (13 : Int32))), .val (.int t24_0), .val (.ref (own_f1_0 ((p0 &&& (2147483647 : Int32)) - ((p0 &&& (2147483647 : Int32)) / (13 : Int32)) * (13 : Int32)) w_OCTET_STRING w_INTEGER32 w_INTEGER64 w_UNSIGNED32 w_UNSIGNED64 w_GROUPED w_ADDRESS w_TIME w_UTF8_STRING w_DIAMETER_IDENTITY w_DIAMETER_URI w_ENUMERATED w_IP_FILTER_RULE)), .val (.int (own_f2_0 t24_0 (own_fx ((p0 &&& (2147483647 : Int32)) - ((p0 &&& (2147483647 : Int32)) / (13 : Int32)) * (13 : Int32))) (own_mn ((p0 &&& (2147483647 : Int32)) - ((p0 &&& (2147483647 : Int32)) / (13 : Int32)) * (13 : Int32))))), .val (.int (own_f3_0 ((p0 &&& (2147483647 : Int32)) - ((p0 &&& (2147483647 : Int32)) / (13 : Int32)) * (13 : Int32)))), .unset] [(.int (1 : Int32))])) t
          refine XS.goto X3.here hx rfl (pc0 := 66) (pc' := 70) rfl (hb hby at_66) (by decide) (by decide) ?_
          show Steps p.tables e below (T3.setTop (mkF m 70 #[.val (.int p0), .val (.int p1), .val (.int p2), .val (.int ((p0 &&& (2147483647 : Int32)) - ((p0 &&& (2147483647 : Int32)) / (13 : Int32)) * (13 : Int32))), .val (.int t24_0), .val (.ref (own_f1_0 ((p0 &&& (2147483647 : Int32)) - ((p0 &&& (2147483647 : Int32)) / (13 : Int32)) * (13 : Int32)) w_OCTET_STRING w_INTEGER32 w_INTEGER64 w_UNSIGNED32 w_UNSIGNED64 w_GROUPED w_ADDRESS w_TIME w_UTF8_STRING w_DIAMETER_IDENTITY w_DIAMETER_URI w_ENUMERATED w_IP_FILTER_RULE)), .val (.int (own_f2_0 t24_0 (own_fx ((p0 &&& (2147483647 : Int32)) - ((p0 &&& (2147483647 : Int32)) / (13 : Int32)) * (13 : Int32))) (own_mn ((p0 &&& (2147483647 : Int32)) - ((p0 &&& (2147483647 : Int32)) / (13 : Int32)) * (13 : Int32))))), .val (.int (own_f3_0 ((p0 &&& (2147483647 : Int32)) - ((p0 &&& (2147483647 : Int32)) / (13 : Int32)) * (13 : Int32)))), .unset] [(.int (1 : Int32))])) t
          exact k
        rw [show own_f0_24 p0 t24_0 = (own_f0_70 p0 (1 : Int32) t24_0) from (by rw [own_f0_24, if_neg hc49, if_pos hc62])]
        exact j70 T3 _ X3 e3 N3 (1 : Int32)
      · refine Owe.step (T' := T3) (g' := (mkF m 69 #[.val (.int p0), .val (.int p1), .val (.int p2), .val (.int ((p0 &&& (2147483647 : Int32)) - ((p0 &&& (2147483647 : Int32)) / (13 : Int32)) * (13 : Int32))), .val (.int t24_0), .val (.ref (own_f1_0 ((p0 &&& (2147483647 : Int32)) - ((p0 &&& (2147483647 : Int32)) / (13 : Int32)) * (13 : Int32)) w_OCTET_STRING w_INTEGER32 w_INTEGER64 w_UNSIGNED32 w_UNSIGNED64 w_GROUPED w_ADDRESS w_TIME w_UTF8_STRING w_DIAMETER_IDENTITY w_DIAMETER_URI w_ENUMERATED w_IP_FILTER_RULE)), .val (.int (own_f2_0 t24_0 (own_fx ((p0 &&& (2147483647 : Int32)) - ((p0 &&& (2147483647 : Int32)) / (13 : Int32)) * (13 : Int32))) (own_mn ((p0 &&& (2147483647 : Int32)) - ((p0 &&& (2147483647 : Int32)) / (13 : Int32)) * (13 : Int32))))), .val (.int (own_f3_0 ((p0 &&& (2147483647 : Int32)) - ((p0 &&& (2147483647 : Int32)) / (13 : Int32)) * (13 : Int32)))), .unset] [])) (fun t k => ?_) ?_
        · show Steps p.tables e below (T3.setTop (mkF m 62 #[.val (.int p0), .val (.int p1), .val (.int p2), .val (.int ((p0 &&& (2147483647 : Int32)) - ((p0 &&& (2147483647 : Int32)) / (13 : Int32)) * (13 : Int32))), .val (.int t24_0), .val (.ref (own_f1_0 ((p0 &&& (2147483647 : Int32)) - ((p0 &&& (2147483647 : Int32)) / (13 : Int32)) * (13 : Int32)) w_OCTET_STRING w_INTEGER32 w_INTEGER64 w_UNSIGNED32 w_UNSIGNED64 w_GROUPED w_ADDRESS w_TIME w_UTF8_STRING w_DIAMETER_IDENTITY w_DIAMETER_URI w_ENUMERATED w_IP_FILTER_RULE)), .val (.int (own_f2_0 t24_0 (own_fx ((p0 &&& (2147483647 : Int32)) - ((p0 &&& (2147483647 : Int32)) / (13 : Int32)) * (13 : Int32))) (own_mn ((p0 &&& (2147483647 : Int32)) - ((p0 &&& (2147483647 : Int32)) / (13 : Int32)) * (13 : Int32))))), .val (.int (own_f3_0 ((p0 &&& (2147483647 : Int32)) - ((p0 &&& (2147483647 : Int32)) / (13 : Int32)) * (13 : Int32)))), .unset] [(.int (own_f3_0 ((p0 &&& (2147483647 : Int32)) - ((p0 &&& (2147483647 : Int32)) / (13 : Int32)) * (13 : Int32)))), (.int t24_0)])) t
          refine XS.icmpYes X3.here hx rfl (pc0 := 62) (pc' := 69) rfl (hb hby at_62) rfl (feq hc62).2 (by decide) (by decide) ?_
          show Steps p.tables e below (T3.setTop (mkF m 69 #[.val (.int p0), .val (.int p1), .val (.int p2), .val (.int ((p0 &&& (2147483647 : Int32)) - ((p0 &&& (2147483647 : Int32)) / (13 : Int32)) * (13 : Int32))), .val (.int t24_0), .val (.ref (own_f1_0 ((p0 &&& (2147483647 : Int32)) - ((p0 &&& (2147483647 : Int32)) / (13 : Int32)) * (13 : Int32)) w_OCTET_STRING w_INTEGER32 w_INTEGER64 w_UNSIGNED32 w_UNSIGNED64 w_GROUPED w_ADDRESS w_TIME w_UTF8_STRING w_DIAMETER_IDENTITY w_DIAMETER_URI w_ENUMERATED w_IP_FILTER_RULE)), .val (.int (own_f2_0 t24_0 (own_fx ((p0 &&& (2147483647 : Int32)) - ((p0 &&& (2147483647 : Int32)) / (13 : Int32)) * (13 : Int32))) (own_mn ((p0 &&& (2147483647 : Int32)) - ((p0 &&& (2147483647 : Int32)) / (13 : Int32)) * (13 : Int32))))), .val (.int (own_f3_0 ((p0 &&& (2147483647 : Int32)) - ((p0 &&& (2147483647 : Int32)) / (13 : Int32)) * (13 : Int32)))), .unset] [])) t
          exact k
        refine Owe.step (T' := T3) (g' := (mkF m 70 #[.val (.int p0), .val (.int p1), .val (.int p2), .val (.int ((p0 &&& (2147483647 : Int32)) - ((p0 &&& (2147483647 : Int32)) / (13 : Int32)) * (13 : Int32))), .val (.int t24_0), .val (.ref (own_f1_0 ((p0 &&& (2147483647 : Int32)) - ((p0 &&& (2147483647 : Int32)) / (13 : Int32)) * (13 : Int32)) w_OCTET_STRING w_INTEGER32 w_INTEGER64 w_UNSIGNED32 w_UNSIGNED64 w_GROUPED w_ADDRESS w_TIME w_UTF8_STRING w_DIAMETER_IDENTITY w_DIAMETER_URI w_ENUMERATED w_IP_FILTER_RULE)), .val (.int (own_f2_0 t24_0 (own_fx ((p0 &&& (2147483647 : Int32)) - ((p0 &&& (2147483647 : Int32)) / (13 : Int32)) * (13 : Int32))) (own_mn ((p0 &&& (2147483647 : Int32)) - ((p0 &&& (2147483647 : Int32)) / (13 : Int32)) * (13 : Int32))))), .val (.int (own_f3_0 ((p0 &&& (2147483647 : Int32)) - ((p0 &&& (2147483647 : Int32)) / (13 : Int32)) * (13 : Int32)))), .unset] [(.int (0 : Int32))])) (fun t k => ?_) ?_
        · show Steps p.tables e below (T3.setTop (mkF m 69 #[.val (.int p0), .val (.int p1), .val (.int p2), .val (.int ((p0 &&& (2147483647 : Int32)) - ((p0 &&& (2147483647 : Int32)) / (13 : Int32)) * (13 : Int32))), .val (.int t24_0), .val (.ref (own_f1_0 ((p0 &&& (2147483647 : Int32)) - ((p0 &&& (2147483647 : Int32)) / (13 : Int32)) * (13 : Int32)) w_OCTET_STRING w_INTEGER32 w_INTEGER64 w_UNSIGNED32 w_UNSIGNED64 w_GROUPED w_ADDRESS w_TIME w_UTF8_STRING w_DIAMETER_IDENTITY w_DIAMETER_URI w_ENUMERATED w_IP_FILTER_RULE)), .val (.int (own_f2_0 t24_0 (own_fx ((p0 &&& (2147483647 : Int32)) - ((p0 &&& (2147483647 : Int32)) / (13 : Int32)) * (13 : Int32))) (own_mn ((p0 &&& (2147483647 : Int32)) - ((p0 &&& (2147483647 : Int32)) / (13 : Int32)) * (13 : Int32))))), .val (.int (own_f3_0 ((p0 &&& (2147483647 : Int32)) - ((p0 &&& (2147483647 : Int32)) / (13 : Int32)) * (13 : Int32)))), .unset] [])) t
          refine XS.iconst X3.here hx rfl (hb hby at_69) ?_
          show Steps p.tables e below (T3.setTop (mkF m 70 #[.val (.int p0), .val (.int p1), .val (.int p2), .val (.int ((p0 &&& (2147483647 : Int32)) - ((p0 &&& (2147483647 : Int32)) / (13 : Int32)) * (13 : Int32))), .val (.int t24_0), .val (.ref (own_f1_0 ((p0 &&& (2147483647 : Int32)) - ((p0 &&& (2147483647 : Int32)) / (13 : Int32)) * (13 : Int32)) w_OCTET_STRING w_INTEGER32 w_INTEGER64 w_UNSIGNED32 w_UNSIGNED64 w_GROUPED w_ADDRESS w_TIME w_UTF8_STRING w_DIAMETER_IDENTITY w_DIAMETER_URI w_ENUMERATED w_IP_FILTER_RULE)), .val (.int (own_f2_0 t24_0 (own_fx ((p0 &&& (2147483647 : Int32)) - ((p0 &&& (2147483647 : Int32)) / (13 : Int32)) * (13 : Int32))) (own_mn ((p0 &&& (2147483647 : Int32)) - ((p0 &&& (2147483647 : Int32)) / (13 : Int32)) * (13 : Int32))))), .val (.int (own_f3_0 ((p0 &&& (2147483647 : Int32)) - ((p0 &&& (2147483647 : Int32)) / (13 : Int32)) * (13 : Int32)))), .unset] [(.int (0 : Int32))])) t
          exact k
        rw [show own_f0_24 p0 t24_0 = (own_f0_70 p0 (0 : Int32) t24_0) from (by rw [own_f0_24, if_neg hc49, if_neg hc62])]
        exact j70 T3 _ X3 e3 N3 (0 : Int32)
  by_cases hc11 : (p2 &&& (1 : Int32)) = (0 : Int32)
  · refine Owe.step (T' := s₁) (g' := (mkF m 23 #[.val (.int p0), .val (.int p1), .val (.int p2), .val (.int ((p0 &&& (2147483647 : Int32)) - ((p0 &&& (2147483647 : Int32)) / (13 : Int32)) * (13 : Int32))), .unset, .unset, .unset, .unset, .unset] [])) (fun t k => ?_) ?_
    · show Steps p.tables e below (s₁.setTop (mkF m 11 #[.val (.int p0), .val (.int p1), .val (.int p2), .val (.int ((p0 &&& (2147483647 : Int32)) - ((p0 &&& (2147483647 : Int32)) / (13 : Int32)) * (13 : Int32))), .unset, .unset, .unset, .unset, .unset] [(.int (p2 &&& (1 : Int32)))])) t
      refine XS.ifYes X0.here hx rfl (pc0 := 11) (pc' := 23) rfl (hb hby at_11) rfl ((if0 _ _).trans (teq hc11).1) (by decide) (by decide) ?_
      show Steps p.tables e below (s₁.setTop (mkF m 23 #[.val (.int p0), .val (.int p1), .val (.int p2), .val (.int ((p0 &&& (2147483647 : Int32)) - ((p0 &&& (2147483647 : Int32)) / (13 : Int32)) * (13 : Int32))), .unset, .unset, .unset, .unset, .unset] [])) t
      exact k
    refine Owe.step (T' := s₁) (g' := (mkF m 24 #[.val (.int p0), .val (.int p1), .val (.int p2), .val (.int ((p0 &&& (2147483647 : Int32)) - ((p0 &&& (2147483647 : Int32)) / (13 : Int32)) * (13 : Int32))), .unset, .unset, .unset, .unset, .unset] [(.int p1)])) (fun t k => ?_) ?_
    · show Steps p.tables e below (s₁.setTop (mkF m 23 #[.val (.int p0), .val (.int p1), .val (.int p2), .val (.int ((p0 &&& (2147483647 : Int32)) - ((p0 &&& (2147483647 : Int32)) / (13 : Int32)) * (13 : Int32))), .unset, .unset, .unset, .unset, .unset] [])) t
      refine XS.iloadN X0.here hx rfl (hb hby at_23) rfl ?_
      show Steps p.tables e below (s₁.setTop (mkF m 24 #[.val (.int p0), .val (.int p1), .val (.int p2), .val (.int ((p0 &&& (2147483647 : Int32)) - ((p0 &&& (2147483647 : Int32)) / (13 : Int32)) * (13 : Int32))), .unset, .unset, .unset, .unset, .unset] [(.int p1)])) t
      exact k
    refine Owe.cast (show (own_f0_24 p0 p1) = (1 : Int32) from (show own_f0_0 p0 p1 p2 = (own_f0_24 p0 p1) from (by rw [own_f0_0, if_pos hc11])).symm.trans (own_law p0 p1 p2 )) ?_
    exact j24 s₁ _ X0 e0 N0 p1
  · refine Owe.step (T' := s₁) (g' := (mkF m 14 #[.val (.int p0), .val (.int p1), .val (.int p2), .val (.int ((p0 &&& (2147483647 : Int32)) - ((p0 &&& (2147483647 : Int32)) / (13 : Int32)) * (13 : Int32))), .unset, .unset, .unset, .unset, .unset] [])) (fun t k => ?_) ?_
    · show Steps p.tables e below (s₁.setTop (mkF m 11 #[.val (.int p0), .val (.int p1), .val (.int p2), .val (.int ((p0 &&& (2147483647 : Int32)) - ((p0 &&& (2147483647 : Int32)) / (13 : Int32)) * (13 : Int32))), .unset, .unset, .unset, .unset, .unset] [(.int (p2 &&& (1 : Int32)))])) t
      refine XS.ifNo X0.here hx rfl (hb hby at_11) rfl ((if0 _ _).trans (feq hc11).1) ?_
      show Steps p.tables e below (s₁.setTop (mkF m 14 #[.val (.int p0), .val (.int p1), .val (.int p2), .val (.int ((p0 &&& (2147483647 : Int32)) - ((p0 &&& (2147483647 : Int32)) / (13 : Int32)) * (13 : Int32))), .unset, .unset, .unset, .unset, .unset] [])) t
      exact k
    refine Owe.step (T' := s₁) (g' := (mkF m 24 #[.val (.int p0), .val (.int p1), .val (.int p2), .val (.int ((p0 &&& (2147483647 : Int32)) - ((p0 &&& (2147483647 : Int32)) / (13 : Int32)) * (13 : Int32))), .unset, .unset, .unset, .unset, .unset] [(.int ((p1 &&& (15 : Int32)) - (2 : Int32)))])) (fun t k => ?_) ?_
    · show Steps p.tables e below (s₁.setTop (mkF m 14 #[.val (.int p0), .val (.int p1), .val (.int p2), .val (.int ((p0 &&& (2147483647 : Int32)) - ((p0 &&& (2147483647 : Int32)) / (13 : Int32)) * (13 : Int32))), .unset, .unset, .unset, .unset, .unset] [])) t
      refine XS.iloadN X0.here hx rfl (hb hby at_14) rfl ?_
      show Steps p.tables e below (s₁.setTop (mkF m 15 #[.val (.int p0), .val (.int p1), .val (.int p2), .val (.int ((p0 &&& (2147483647 : Int32)) - ((p0 &&& (2147483647 : Int32)) / (13 : Int32)) * (13 : Int32))), .unset, .unset, .unset, .unset, .unset] [(.int p1)])) t
      refine XS.bipush X0.here hx rfl (hb hby at_15) ?_
      show Steps p.tables e below (s₁.setTop (mkF m 17 #[.val (.int p0), .val (.int p1), .val (.int p2), .val (.int ((p0 &&& (2147483647 : Int32)) - ((p0 &&& (2147483647 : Int32)) / (13 : Int32)) * (13 : Int32))), .unset, .unset, .unset, .unset, .unset] [(.int (15 : Int32)), (.int p1)])) t
      refine XS.iand X0.here hx rfl (hb hby at_17) rfl ?_
      show Steps p.tables e below (s₁.setTop (mkF m 18 #[.val (.int p0), .val (.int p1), .val (.int p2), .val (.int ((p0 &&& (2147483647 : Int32)) - ((p0 &&& (2147483647 : Int32)) / (13 : Int32)) * (13 : Int32))), .unset, .unset, .unset, .unset, .unset] [(.int (p1 &&& (15 : Int32)))])) t
      refine XS.iconst X0.here hx rfl (hb hby at_18) ?_
      show Steps p.tables e below (s₁.setTop (mkF m 19 #[.val (.int p0), .val (.int p1), .val (.int p2), .val (.int ((p0 &&& (2147483647 : Int32)) - ((p0 &&& (2147483647 : Int32)) / (13 : Int32)) * (13 : Int32))), .unset, .unset, .unset, .unset, .unset] [(.int (2 : Int32)), (.int (p1 &&& (15 : Int32)))])) t
      refine XS.isub X0.here hx rfl (hb hby at_19) rfl ?_
      show Steps p.tables e below (s₁.setTop (mkF m 20 #[.val (.int p0), .val (.int p1), .val (.int p2), .val (.int ((p0 &&& (2147483647 : Int32)) - ((p0 &&& (2147483647 : Int32)) / (13 : Int32)) * (13 : Int32))), .unset, .unset, .unset, .unset, .unset] [(.int ((p1 &&& (15 : Int32)) - (2 : Int32)))])) t
      refine XS.goto X0.here hx rfl (pc0 := 20) (pc' := 24) rfl (hb hby at_20) (by decide) (by decide) ?_
      show Steps p.tables e below (s₁.setTop (mkF m 24 #[.val (.int p0), .val (.int p1), .val (.int p2), .val (.int ((p0 &&& (2147483647 : Int32)) - ((p0 &&& (2147483647 : Int32)) / (13 : Int32)) * (13 : Int32))), .unset, .unset, .unset, .unset, .unset] [(.int ((p1 &&& (15 : Int32)) - (2 : Int32)))])) t
      exact k
    refine Owe.cast (show (own_f0_24 p0 ((p1 &&& (15 : Int32)) - (2 : Int32))) = (1 : Int32) from (show own_f0_0 p0 p1 p2 = (own_f0_24 p0 ((p1 &&& (15 : Int32)) - (2 : Int32))) from (by rw [own_f0_0, if_neg hc11])).symm.trans (own_law p0 p1 p2 )) ?_
    exact j24 s₁ _ X0 e0 N0 ((p1 &&& (15 : Int32)) - (2 : Int32))
set_option maxRecDepth 65536 in
set_option maxHeartbeats 40000000 in
theorem comes_1 {Post : Tables → Env → Array Value → State → Outcome → State → Prop} (hpost : ∀ tb e args s v u, (limb_1_1.after args s (.returned v) u = true ∧ limb_1_2.after args s (.returned v) u = true ∧ True) → FrameEnd s (.returned v) u (Jvm.fieldLocs frame_1_writes args s ++ Jvm.arrayLocs frame_1_arrays args s ++ Jvm.staticLocs frame_1_statics s) 0 0 → Post tb e args s (.returned v) u) :
    ArmFor flags0 classFile x code maxLocals ret World_1 tables_1 room_1 Calls_1 rest_1 Pre_1 Post := by
  intro l hfl _ _ p e ha hc hk s m args below hf hA hF happ hP
  obtain ⟨hcalls, hrest, hpre⟩ := hP
  obtain ⟨-, -, -, hnamed, -, -, -, hat⟩ := (Spec.applies_iff hf).mp happ
  obtain ⟨hg, hn⟩ := and_e (Cond.before_iff.mp (show (Jvm.Cond.and given_1 narrow_1).before args s = true from hpre))
  obtain ⟨ga1, gb1⟩ := and_e hg
  obtain ⟨ga2, gb2⟩ := and_e gb1
  obtain ⟨ga3, gb3⟩ := and_e gb2
  obtain ⟨w0, w1, w2, rfl⟩ : ∃ w0 w1 w2 : Value, args = #[w0, w1, w2] := by
    have hs : args.size = 3 := by simpa [Cond.value, given_1] using ga1
    obtain ⟨L⟩ := args
    match L, hs with
    | [w0, w1, w2], _ => exact ⟨w0, w1, w2, rfl⟩
  have hw := fun d (hd : d ∈ tables_1) => atoms_spec (ws := Jvm.Cond.code x code maxLocals ret :: tables_1) hat d (List.mem_cons_of_mem _ hd)
  obtain ⟨i0, ei0⟩ := is_v ga2
  obtain rfl : w0 = (.int i0) := Option.some.inj ei0
  obtain ⟨i1, ei1⟩ := is_v ga3
  obtain rfl : w1 = (.int i1) := Option.some.inj ei1
  obtain ⟨i2, ei2⟩ := is_v gb3
  obtain rfl : w2 = (.int i2) := Option.some.inj ei2
  obtain ⟨na1, nb1⟩ := and_e hn
  obtain ⟨na2, nb2⟩ := and_e nb1
  obtain ⟨na3, nb3⟩ := and_e nb2
  obtain ⟨na4, nb4⟩ := and_e nb3
  obtain ⟨na5, nb5⟩ := and_e nb4
  obtain ⟨na6, nb6⟩ := and_e nb5
  obtain ⟨na7, nb7⟩ := and_e nb6
  obtain ⟨na8, nb8⟩ := and_e nb7
  obtain ⟨na9, nb9⟩ := and_e nb8
  obtain ⟨na10, nb10⟩ := and_e nb9
  obtain ⟨na11, nb11⟩ := and_e nb10
  obtain ⟨na12, nb12⟩ := and_e nb11
  obtain ⟨na13, nb13⟩ := and_e nb12
  obtain ⟨na14, nb14⟩ := and_e nb13
  obtain ⟨na15, nb15⟩ := and_e nb14
  obtain ⟨na16, nb16⟩ := and_e nb15
  obtain ⟨na17, nb17⟩ := and_e nb16
  obtain ⟨na18, nb18⟩ := and_e nb17
  obtain ⟨na19, nb19⟩ := and_e nb18
  obtain ⟨na20, nb20⟩ := and_e nb19
  obtain ⟨na21, nb21⟩ := and_e nb20
  obtain ⟨na22, nb22⟩ := and_e nb21
  obtain ⟨na23, nb23⟩ := and_e nb22
  obtain ⟨na24, nb24⟩ := and_e nb23
  obtain ⟨na25, nb25⟩ := and_e nb24
  obtain ⟨na26, nb26⟩ := and_e nb25
  obtain ⟨na27, nb27⟩ := and_e nb26
  obtain ⟨na28, nb28⟩ := and_e nb27
  obtain ⟨na29, nb29⟩ := and_e nb28
  obtain ⟨na30, nb30⟩ := and_e nb29
  obtain ⟨na31, nb31⟩ := and_e nb30
  obtain ⟨na32, nb32⟩ := and_e nb31
  obtain ⟨na33, nb33⟩ := and_e nb32
  obtain ⟨na34, nb34⟩ := and_e nb33
  obtain ⟨na35, nb35⟩ := and_e nb34
  obtain ⟨na36, nb36⟩ := and_e nb35
  obtain ⟨na37, nb37⟩ := and_e nb36
  obtain ⟨na38, nb38⟩ := and_e nb37
  obtain ⟨w_OCTET_STRING, ev_OCTET_STRING⟩ := exa_v na1
  have E_OCTET_STRING := Exa.start ev_OCTET_STRING na1
  have S_OCTET_STRING := Sta.start ev_OCTET_STRING (Or.inr ⟨(hw _ (List.mem_of_getElem? (i := 6) rfl)), (hw _ (List.mem_of_getElem? (i := 7) rfl))⟩)
  obtain ⟨w_INTEGER32, ev_INTEGER32⟩ := exa_v na3
  have E_INTEGER32 := Exa.start ev_INTEGER32 na3
  have S_INTEGER32 := Sta.start ev_INTEGER32 (Or.inr ⟨(hw _ (List.mem_of_getElem? (i := 6) rfl)), (hw _ (List.mem_of_getElem? (i := 19) rfl))⟩)
  obtain ⟨w_UTF8_STRING, ev_UTF8_STRING⟩ := exa_v na6
  have E_UTF8_STRING := Exa.start ev_UTF8_STRING na6
  have S_UTF8_STRING := Sta.start ev_UTF8_STRING (Or.inr ⟨(hw _ (List.mem_of_getElem? (i := 6) rfl)), (hw _ (List.mem_of_getElem? (i := 23) rfl))⟩)
  obtain ⟨w_TIME, ev_TIME⟩ := exa_v na8
  have E_TIME := Exa.start ev_TIME na8
  have S_TIME := Sta.start ev_TIME (Or.inr ⟨(hw _ (List.mem_of_getElem? (i := 6) rfl)), (hw _ (List.mem_of_getElem? (i := 25) rfl))⟩)
  obtain ⟨w_DIAMETER_URI, ev_DIAMETER_URI⟩ := exa_v na11
  have E_DIAMETER_URI := Exa.start ev_DIAMETER_URI na11
  have S_DIAMETER_URI := Sta.start ev_DIAMETER_URI (Or.inr ⟨(hw _ (List.mem_of_getElem? (i := 6) rfl)), (hw _ (List.mem_of_getElem? (i := 27) rfl))⟩)
  obtain ⟨w_ENUMERATED, ev_ENUMERATED⟩ := exa_v na13
  have E_ENUMERATED := Exa.start ev_ENUMERATED na13
  have S_ENUMERATED := Sta.start ev_ENUMERATED (Or.inr ⟨(hw _ (List.mem_of_getElem? (i := 6) rfl)), (hw _ (List.mem_of_getElem? (i := 29) rfl))⟩)
  obtain ⟨w_UNSIGNED32, ev_UNSIGNED32⟩ := exa_v na16
  have E_UNSIGNED32 := Exa.start ev_UNSIGNED32 na16
  have S_UNSIGNED32 := Sta.start ev_UNSIGNED32 (Or.inr ⟨(hw _ (List.mem_of_getElem? (i := 6) rfl)), (hw _ (List.mem_of_getElem? (i := 31) rfl))⟩)
  obtain ⟨w_IP_FILTER_RULE, ev_IP_FILTER_RULE⟩ := exa_v na19
  have E_IP_FILTER_RULE := Exa.start ev_IP_FILTER_RULE na19
  have S_IP_FILTER_RULE := Sta.start ev_IP_FILTER_RULE (Or.inr ⟨(hw _ (List.mem_of_getElem? (i := 6) rfl)), (hw _ (List.mem_of_getElem? (i := 33) rfl))⟩)
  obtain ⟨w_UNSIGNED64, ev_UNSIGNED64⟩ := exa_v na21
  have E_UNSIGNED64 := Exa.start ev_UNSIGNED64 na21
  have S_UNSIGNED64 := Sta.start ev_UNSIGNED64 (Or.inr ⟨(hw _ (List.mem_of_getElem? (i := 6) rfl)), (hw _ (List.mem_of_getElem? (i := 35) rfl))⟩)
  obtain ⟨w_GROUPED, ev_GROUPED⟩ := exa_v na24
  have E_GROUPED := Exa.start ev_GROUPED na24
  have S_GROUPED := Sta.start ev_GROUPED (Or.inr ⟨(hw _ (List.mem_of_getElem? (i := 6) rfl)), (hw _ (List.mem_of_getElem? (i := 37) rfl))⟩)
  obtain ⟨w_INTEGER64, ev_INTEGER64⟩ := exa_v na26
  have E_INTEGER64 := Exa.start ev_INTEGER64 na26
  have S_INTEGER64 := Sta.start ev_INTEGER64 (Or.inr ⟨(hw _ (List.mem_of_getElem? (i := 6) rfl)), (hw _ (List.mem_of_getElem? (i := 39) rfl))⟩)
  obtain ⟨w_ADDRESS, ev_ADDRESS⟩ := exa_v na29
  have E_ADDRESS := Exa.start ev_ADDRESS na29
  have S_ADDRESS := Sta.start ev_ADDRESS (Or.inr ⟨(hw _ (List.mem_of_getElem? (i := 6) rfl)), (hw _ (List.mem_of_getElem? (i := 41) rfl))⟩)
  obtain ⟨w_DIAMETER_IDENTITY, ev_DIAMETER_IDENTITY⟩ := exa_v na31
  have E_DIAMETER_IDENTITY := Exa.start ev_DIAMETER_IDENTITY na31
  have S_DIAMETER_IDENTITY := Sta.start ev_DIAMETER_IDENTITY (Or.inr ⟨(hw _ (List.mem_of_getElem? (i := 6) rfl)), (hw _ (List.mem_of_getElem? (i := 43) rfl))⟩)
  have F_OCTET_STRING_fixedLength := own_fldI ev_OCTET_STRING na2
  have F_INTEGER32_fixedLength := own_fldI ev_INTEGER32 na4
  have F_INTEGER32_minimumLength := own_fldI ev_INTEGER32 na5
  have F_UTF8_STRING_fixedLength := own_fldI ev_UTF8_STRING na7
  have F_TIME_fixedLength := own_fldI ev_TIME na9
  have F_TIME_minimumLength := own_fldI ev_TIME na10
  have F_DIAMETER_URI_fixedLength := own_fldI ev_DIAMETER_URI na12
  have F_ENUMERATED_fixedLength := own_fldI ev_ENUMERATED na14
  have F_ENUMERATED_minimumLength := own_fldI ev_ENUMERATED na15
  have F_UNSIGNED32_fixedLength := own_fldI ev_UNSIGNED32 na17
  have F_UNSIGNED32_minimumLength := own_fldI ev_UNSIGNED32 na18
  have F_IP_FILTER_RULE_fixedLength := own_fldI ev_IP_FILTER_RULE na20
  have F_UNSIGNED64_fixedLength := own_fldI ev_UNSIGNED64 na22
  have F_UNSIGNED64_minimumLength := own_fldI ev_UNSIGNED64 na23
  have F_GROUPED_fixedLength := own_fldI ev_GROUPED na25
  have F_INTEGER64_fixedLength := own_fldI ev_INTEGER64 na27
  have F_INTEGER64_minimumLength := own_fldI ev_INTEGER64 na28
  have F_ADDRESS_fixedLength := own_fldI ev_ADDRESS na30
  have F_DIAMETER_IDENTITY_fixedLength := own_fldI ev_DIAMETER_IDENTITY na32
  have F_OCTET_STRING_minimumLength := own_fldI ev_OCTET_STRING na33
  have F_UTF8_STRING_minimumLength := own_fldI ev_UTF8_STRING na34
  have F_DIAMETER_URI_minimumLength := own_fldI ev_DIAMETER_URI na35
  have F_IP_FILTER_RULE_minimumLength := own_fldI ev_IP_FILTER_RULE na36
  have F_GROUPED_minimumLength := own_fldI ev_GROUPED na37
  have F_ADDRESS_minimumLength := own_fldI ev_ADDRESS na38
  have F_DIAMETER_IDENTITY_minimumLength := own_fldI ev_DIAMETER_IDENTITY nb38
  obtain ⟨n, o, h1, h2, h3, _, L, rfl, ⟨rfl, N⟩, hq⟩ := own_rm0 l s _ hw tables_1 i0 i1 i2 w_OCTET_STRING w_INTEGER32 w_INTEGER64 w_UNSIGNED32 w_UNSIGNED64 w_GROUPED w_ADDRESS w_TIME w_UTF8_STRING w_DIAMETER_IDENTITY w_DIAMETER_URI w_ENUMERATED w_IP_FILTER_RULE s.heap s.heap.size (Nat.le_refl _) S_OCTET_STRING S_INTEGER32 S_INTEGER64 S_UNSIGNED32 S_UNSIGNED64 S_GROUPED S_ADDRESS S_TIME S_UTF8_STRING S_DIAMETER_IDENTITY S_DIAMETER_URI S_ENUMERATED S_IP_FILTER_RULE ⟨E_OCTET_STRING, E_INTEGER32, E_INTEGER64, E_UNSIGNED32, E_UNSIGNED64, E_GROUPED, E_ADDRESS, E_TIME, E_UTF8_STRING, E_DIAMETER_IDENTITY, E_DIAMETER_URI, E_ENUMERATED, E_IP_FILTER_RULE, F_OCTET_STRING_fixedLength, F_INTEGER32_fixedLength, F_INTEGER64_fixedLength, F_UNSIGNED32_fixedLength, F_UNSIGNED64_fixedLength, F_GROUPED_fixedLength, F_ADDRESS_fixedLength, F_TIME_fixedLength, F_UTF8_STRING_fixedLength, F_DIAMETER_IDENTITY_fixedLength, F_DIAMETER_URI_fixedLength, F_ENUMERATED_fixedLength, F_IP_FILTER_RULE_fixedLength, F_OCTET_STRING_minimumLength, F_INTEGER32_minimumLength, F_INTEGER64_minimumLength, F_UNSIGNED32_minimumLength, F_UNSIGNED64_minimumLength, F_GROUPED_minimumLength, F_ADDRESS_minimumLength, F_TIME_minimumLength, F_UTF8_STRING_minimumLength, F_DIAMETER_IDENTITY_minimumLength, F_DIAMETER_URI_minimumLength, F_ENUMERATED_minimumLength, F_IP_FILTER_RULE_minimumLength⟩ p e ha hc hk s m _ below hf ((Spec.applies_iff_loose hf).mp happ).1 ⟨rfl, State.Warmed39.refl s, rfl⟩ trivial
  refine ⟨n, _, h1, h2, h3, hpost _ _ _ _ _ _ ⟨Cond.after_iff.mpr rfl, Cond.after_iff.mpr (eq_i res_at (Term.int_eval (1)) rfl), trivial⟩ ⟨hq.1, hq.2.1, (hq.2.2.sift fun y hy => Or.inr (N y hy)).mono (by decide) (by decide)⟩⟩
theorem main_1_1 : Claimed_1_1 := comes_1 fun _ _ _ _ _ _ h hF => ⟨h.1, hF⟩
theorem main_1_2 : Claimed_1_2 := comes_1 fun _ _ _ _ _ _ h hF => ⟨h.2.1, hF⟩
end Jvm.Pilot.@@N@@
namespace Jvm.Pilot.@@N@@
open Jvm Jvm.ClassFile Sem Op Lib Jvm.Free Jvm.Stand Jvm.Pilot.@@N@@.Jvm.D
/-! MADE BY PROGRAM (witnessworld.py) out of the Statement's table words and the real class files: 12 classes; the members and pool entries that the words name. The judged class is class 1, her method 3. -/
namespace start1
open Jvm.ClassFile
def u (s : String) : CpInfo := .utf8 (stringToUtf16 s)
/-- a pool by its gaps: so many unusable entries, then the entry; so many at the end -/
def gap : Nat → List CpInfo → List CpInfo
  | 0, r => r
  | n + 1, r => .unusable :: gap n r
def poolList (es : List (Nat × CpInfo)) (last : Nat) : List CpInfo := es.foldr (fun e r => gap e.1 (e.2 :: r)) (gap last [])
def pool (es : List (Nat × CpInfo)) (last : Nat) : Array CpInfo := ⟨poolList es last⟩
def fileOf (pool : Array CpInfo) (this : Nat) (attrs : Array Attribute := #[]) (ms : Array MethodInfo := #[]) (fl : Nat := 33) (sup : Nat := 0) (ifs : Array Nat := #[]) (fds : Array FieldInfo := #[]) : ClassFile where
  minorVersion := 0
  majorVersion := 65
  constantPool := pool
  accessFlags := fl
  thisClass := this
  superClass := sup
  interfaces := ifs
  fields := fds
  methods := ms
  attributes := attrs
def plain (name : String) (sup : Option ClassId) : Class where
  name := name
  kind := .ordinary
  loader := none
  accessFlags := 33
  super := sup
  interfaces := #[]
  cf := none
  fields := #[]
  methods := #[]
  instanceTypes := #[]
  staticTypes := #[]
  resolved := #[]
  callSites := []
  init := .initialized
  statics := none
  mirror := none

def pool0 : Array CpInfo := pool [(5, u "<init>"), (0, u "()V"), (1, .class_ 10), (1, u "java/lang/Object")] 113

def k0m0 : Method := { name := "<init>", desc := "()V", sig := { parameters := [], returnType := none }, accessFlags := 1, code := none }
/-- java/lang/Object -/
def k0 : Class := { plain "java/lang/Object" none with
  accessFlags := 33
  interfaces := #[]
  cf := some (fileOf pool0 8 #[] #[{ accessFlags := 1, nameIndex := 5, descriptorIndex := 6, attributes := #[] }] 33 0 #[] #[])
  fields := #[]
  methods := #[k0m0]
  instanceTypes := #[]
  staticTypes := #[]
  resolved := Array.replicate 124 none
  statics := none }

def pool1 : Array CpInfo := pool [(2, .class_ 4), (1, u "java/lang/Object"), (0, u "<init>"), (0, u "()V"), (0, .fieldref 8 9), (0, .class_ 10), (0, .nameAndType 11 12), (0, u "com/example/tariffwise/tariffwise/diameter/AvpType"), (0, u "OCTET_STRING"), (0, u "Lcom/example/tariffwise/tariffwise/diameter/AvpType;"), (0, .fieldref 8 14), (0, .nameAndType 15 12), (0, u "INTEGER32"), (0, .fieldref 8 17), (0, .nameAndType 18 12), (0, u "INTEGER64"), (0, .fieldref 8 20), (0, .nameAndType 21 12), (0, u "UNSIGNED32"), (0, .fieldref 8 23), (0, .nameAndType 24 12), (0, u "UNSIGNED64"), (0, .fieldref 8 26), (0, .nameAndType 27 12), (0, u "GROUPED"), (0, .fieldref 8 29), (0, .nameAndType 30 12), (0, u "ADDRESS"), (0, .fieldref 8 32), (0, .nameAndType 33 12), (0, u "TIME"), (0, .fieldref 8 35), (0, .nameAndType 36 12), (0, u "UTF8_STRING"), (0, .fieldref 8 38), (0, .nameAndType 39 12), (0, u "DIAMETER_IDENTITY"), (0, .fieldref 8 41), (0, .nameAndType 42 12), (0, u "DIAMETER_URI"), (0, .fieldref 8 44), (0, .nameAndType 45 12), (0, u "ENUMERATED"), (0, .fieldref 8 47), (0, .nameAndType 48 12), (0, u "IP_FILTER_RULE"), (0, .integer 2147483647), (0, .methodref 51 52), (0, .class_ 53), (0, .nameAndType 54 55), (0, u "com/example/tariffwise/tariffwise/diameter/AvpTypeFitsPinLaw"), (0, u "pick"), (0, u "(I)Lcom/example/tariffwise/tariffwise/diameter/AvpType;"), (0, .methodref 8 57), (0, .nameAndType 58 59), (0, u "fits"), (0, u "(I)Z"), (0, .methodref 51 61), (0, .nameAndType 62 63), (0, u "onlyLength"), (0, u "(I)I"), (3, u "law"), (0, u "(III)Z")] 2

def k1m0 : Method := { name := "<init>", desc := "()V", sig := { parameters := [], returnType := none }, accessFlags := 1, code := none }
def k1c1 : Code := { maxStack := 2, maxLocals := 1, code := method_2_code, exceptionTable := #[], attributes := #[] }
def k1m1 : Method := { name := "pick", desc := "(I)Lcom/example/tariffwise/tariffwise/diameter/AvpType;", sig := { parameters := [.int], returnType := some (.object "com/example/tariffwise/tariffwise/diameter/AvpType") }, accessFlags := 10, code := some k1c1 }
def k1c2 : Code := { maxStack := 2, maxLocals := 1, code := method_3_code, exceptionTable := #[], attributes := #[] }
def k1m2 : Method := { name := "onlyLength", desc := "(I)I", sig := { parameters := [.int], returnType := some .int }, accessFlags := 10, code := some k1c2 }
def k1c3 : Code := { maxStack := 2, maxLocals := 9, code := code, exceptionTable := #[], attributes := #[] }
def k1m3 : Method := { name := "law", desc := "(III)Z", sig := { parameters := [.int, .int, .int], returnType := some .boolean }, accessFlags := 9, code := some k1c3 }
/-- com/example/tariffwise/tariffwise/diameter/AvpTypeFitsPinLaw -/
def k1 : Class := { plain "com/example/tariffwise/tariffwise/diameter/AvpTypeFitsPinLaw" (some 0) with
  accessFlags := 49
  interfaces := #[]
  cf := some (fileOf pool1 51 #[] #[{ accessFlags := 1, nameIndex := 5, descriptorIndex := 6, attributes := #[] }, { accessFlags := 10, nameIndex := 54, descriptorIndex := 55, attributes := #[] }, { accessFlags := 10, nameIndex := 62, descriptorIndex := 63, attributes := #[] }, { accessFlags := 9, nameIndex := 67, descriptorIndex := 68, attributes := #[] }] 49 2 #[] #[])
  fields := #[]
  methods := #[k1m0, k1m1, k1m2, k1m3]
  instanceTypes := #[]
  staticTypes := #[]
  resolved := Array.replicate 71 none
  statics := none }

def pool2 : Array CpInfo := pool [(1, .class_ 2), (0, u "java/lang/constant/Constable"), (0, .class_ 4), (0, u "java/lang/Object")] 6

/-- java/lang/constant/Constable -/
def k2 : Class := { plain "java/lang/constant/Constable" (some 0) with
  accessFlags := 1537
  interfaces := #[]
  cf := some (fileOf pool2 1 #[] #[] 1537 3 #[] #[])
  fields := #[]
  methods := #[]
  instanceTypes := #[]
  staticTypes := #[]
  resolved := Array.replicate 11 none
  statics := none }

def pool3 : Array CpInfo := pool [(1, .class_ 2), (0, u "java/lang/Comparable"), (0, .class_ 4), (0, u "java/lang/Object")] 7

/-- java/lang/Comparable -/
def k3 : Class := { plain "java/lang/Comparable" (some 0) with
  accessFlags := 1537
  interfaces := #[]
  cf := some (fileOf pool3 1 #[] #[] 1537 3 #[] #[])
  fields := #[]
  methods := #[]
  instanceTypes := #[]
  staticTypes := #[]
  resolved := Array.replicate 12 none
  statics := none }

def pool4 : Array CpInfo := pool [(1, .class_ 2), (0, u "java/io/Serializable"), (0, .class_ 4), (0, u "java/lang/Object")] 2

/-- java/io/Serializable -/
def k4 : Class := { plain "java/io/Serializable" (some 0) with
  accessFlags := 1537
  interfaces := #[]
  cf := some (fileOf pool4 1 #[] #[] 1537 3 #[] #[])
  fields := #[]
  methods := #[]
  instanceTypes := #[]
  staticTypes := #[]
  resolved := Array.replicate 7 none
  statics := none }

def pool5 : Array CpInfo := pool [(2, .class_ 4), (1, u "java/lang/Enum"), (0, u "name"), (0, u "Ljava/lang/String;"), (2, u "ordinal"), (0, u "I"), (1, .class_ 14), (1, u "java/lang/Object"), (4, u "hash"), (86, .class_ 108), (1, u "java/lang/Enum$EnumDesc"), (2, .class_ 112), (0, u "java/lang/constant/Constable"), (0, .class_ 114), (0, u "java/lang/Comparable"), (0, .class_ 116), (0, u "java/io/Serializable")] 87

/-- java/lang/Enum -/
def k5 : Class := { plain "java/lang/Enum" (some 0) with
  accessFlags := 1057
  interfaces := #[2, 3, 4]
  cf := some (fileOf pool5 2 #[.nestMembers #[106]] #[] 1057 12 #[111, 113, 115] #[{ accessFlags := 18, nameIndex := 5, descriptorIndex := 6, attributes := #[] }, { accessFlags := 18, nameIndex := 9, descriptorIndex := 10, attributes := #[] }, { accessFlags := 2, nameIndex := 19, descriptorIndex := 10, attributes := #[] }])
  fields := #[{ name := "name", type := (.object "java/lang/String"), accessFlags := 18, slot := 0, constantValue := 0 }, { name := "ordinal", type := .int, accessFlags := 18, slot := 1, constantValue := 0 }, { name := "hash", type := .int, accessFlags := 2, slot := 2, constantValue := 0 }]
  methods := #[]
  instanceTypes := #[(.object "java/lang/String"), .int, .int]
  staticTypes := #[]
  resolved := Array.replicate 204 none
  statics := none }

def pool6 : Array CpInfo := pool [(1, .class_ 2), (0, u "com/example/tariffwise/tariffwise/diameter/AvpType"), (2, u "OCTET_STRING"), (0, u "Lcom/example/tariffwise/tariffwise/diameter/AvpType;"), (2, u "INTEGER32"), (2, u "INTEGER64"), (2, u "UNSIGNED32"), (2, u "UNSIGNED64"), (2, u "GROUPED"), (2, u "ADDRESS"), (2, u "TIME"), (2, u "UTF8_STRING"), (2, u "DIAMETER_IDENTITY"), (2, u "DIAMETER_URI"), (2, u "ENUMERATED"), (2, u "IP_FILTER_RULE"), (2, u "$VALUES"), (0, u "[Lcom/example/tariffwise/tariffwise/diameter/AvpType;"), (6, .class_ 55), (1, u "java/lang/Enum"), (6, .fieldref 1 63), (0, .nameAndType 64 65), (0, u "minimumLength"), (0, u "I"), (0, .fieldref 1 67), (0, .nameAndType 68 69), (0, u "fixedLength"), (0, u "Z"), (28, u "fits"), (0, u "(I)Z")] 6

def k6c0 : Code := { maxStack := 2, maxLocals := 2, code := prog_15_method_5_code, exceptionTable := #[], attributes := #[] }
def k6m0 : Method := { name := "fits", desc := "(I)Z", sig := { parameters := [.int], returnType := some .boolean }, accessFlags := 0, code := some k6c0 }
/-- com/example/tariffwise/tariffwise/diameter/AvpType -/
def k6 : Class := { plain "com/example/tariffwise/tariffwise/diameter/AvpType" (some 5) with
  accessFlags := 16432
  interfaces := #[]
  cf := some (fileOf pool6 1 #[] #[{ accessFlags := 0, nameIndex := 98, descriptorIndex := 99, attributes := #[] }] 16432 53 #[] #[{ accessFlags := 16409, nameIndex := 5, descriptorIndex := 6, attributes := #[] }, { accessFlags := 16409, nameIndex := 9, descriptorIndex := 6, attributes := #[] }, { accessFlags := 16409, nameIndex := 12, descriptorIndex := 6, attributes := #[] }, { accessFlags := 16409, nameIndex := 15, descriptorIndex := 6, attributes := #[] }, { accessFlags := 16409, nameIndex := 18, descriptorIndex := 6, attributes := #[] }, { accessFlags := 16409, nameIndex := 21, descriptorIndex := 6, attributes := #[] }, { accessFlags := 16409, nameIndex := 24, descriptorIndex := 6, attributes := #[] }, { accessFlags := 16409, nameIndex := 27, descriptorIndex := 6, attributes := #[] }, { accessFlags := 16409, nameIndex := 30, descriptorIndex := 6, attributes := #[] }, { accessFlags := 16409, nameIndex := 33, descriptorIndex := 6, attributes := #[] }, { accessFlags := 16409, nameIndex := 36, descriptorIndex := 6, attributes := #[] }, { accessFlags := 16409, nameIndex := 39, descriptorIndex := 6, attributes := #[] }, { accessFlags := 16409, nameIndex := 42, descriptorIndex := 6, attributes := #[] }, { accessFlags := 18, nameIndex := 64, descriptorIndex := 65, attributes := #[] }, { accessFlags := 18, nameIndex := 68, descriptorIndex := 69, attributes := #[] }, { accessFlags := 4122, nameIndex := 45, descriptorIndex := 46, attributes := #[] }])
  fields := #[{ name := "OCTET_STRING", type := (.object "com/example/tariffwise/tariffwise/diameter/AvpType"), accessFlags := 16409, slot := 0, constantValue := 0 }, { name := "INTEGER32", type := (.object "com/example/tariffwise/tariffwise/diameter/AvpType"), accessFlags := 16409, slot := 1, constantValue := 0 }, { name := "INTEGER64", type := (.object "com/example/tariffwise/tariffwise/diameter/AvpType"), accessFlags := 16409, slot := 2, constantValue := 0 }, { name := "UNSIGNED32", type := (.object "com/example/tariffwise/tariffwise/diameter/AvpType"), accessFlags := 16409, slot := 3, constantValue := 0 }, { name := "UNSIGNED64", type := (.object "com/example/tariffwise/tariffwise/diameter/AvpType"), accessFlags := 16409, slot := 4, constantValue := 0 }, { name := "GROUPED", type := (.object "com/example/tariffwise/tariffwise/diameter/AvpType"), accessFlags := 16409, slot := 5, constantValue := 0 }, { name := "ADDRESS", type := (.object "com/example/tariffwise/tariffwise/diameter/AvpType"), accessFlags := 16409, slot := 6, constantValue := 0 }, { name := "TIME", type := (.object "com/example/tariffwise/tariffwise/diameter/AvpType"), accessFlags := 16409, slot := 7, constantValue := 0 }, { name := "UTF8_STRING", type := (.object "com/example/tariffwise/tariffwise/diameter/AvpType"), accessFlags := 16409, slot := 8, constantValue := 0 }, { name := "DIAMETER_IDENTITY", type := (.object "com/example/tariffwise/tariffwise/diameter/AvpType"), accessFlags := 16409, slot := 9, constantValue := 0 }, { name := "DIAMETER_URI", type := (.object "com/example/tariffwise/tariffwise/diameter/AvpType"), accessFlags := 16409, slot := 10, constantValue := 0 }, { name := "ENUMERATED", type := (.object "com/example/tariffwise/tariffwise/diameter/AvpType"), accessFlags := 16409, slot := 11, constantValue := 0 }, { name := "IP_FILTER_RULE", type := (.object "com/example/tariffwise/tariffwise/diameter/AvpType"), accessFlags := 16409, slot := 12, constantValue := 0 }, { name := "minimumLength", type := .int, accessFlags := 18, slot := 3, constantValue := 0 }, { name := "fixedLength", type := .boolean, accessFlags := 18, slot := 4, constantValue := 0 }, { name := "$VALUES", type := (.array (.object "com/example/tariffwise/tariffwise/diameter/AvpType")), accessFlags := 4122, slot := 13, constantValue := 0 }]
  methods := #[k6m0]
  instanceTypes := #[(.object "java/lang/String"), .int, .int, .int, .boolean]
  staticTypes := #[(.object "com/example/tariffwise/tariffwise/diameter/AvpType"), (.object "com/example/tariffwise/tariffwise/diameter/AvpType"), (.object "com/example/tariffwise/tariffwise/diameter/AvpType"), (.object "com/example/tariffwise/tariffwise/diameter/AvpType"), (.object "com/example/tariffwise/tariffwise/diameter/AvpType"), (.object "com/example/tariffwise/tariffwise/diameter/AvpType"), (.object "com/example/tariffwise/tariffwise/diameter/AvpType"), (.object "com/example/tariffwise/tariffwise/diameter/AvpType"), (.object "com/example/tariffwise/tariffwise/diameter/AvpType"), (.object "com/example/tariffwise/tariffwise/diameter/AvpType"), (.object "com/example/tariffwise/tariffwise/diameter/AvpType"), (.object "com/example/tariffwise/tariffwise/diameter/AvpType"), (.object "com/example/tariffwise/tariffwise/diameter/AvpType"), (.array (.object "com/example/tariffwise/tariffwise/diameter/AvpType"))]
  resolved := Array.replicate 106 none
  statics := some 0 }

def pool7 : Array CpInfo := pool [(1, u "java/lang/Cloneable"), (0, .class_ 1), (0, u "java/lang/Object"), (0, .class_ 3)] 3

/-- java/lang/Cloneable -/
def k7 : Class := { plain "java/lang/Cloneable" (some 0) with
  accessFlags := 1537
  interfaces := #[]
  cf := some (fileOf pool7 2 #[] #[] 1537 4 #[] #[])
  fields := #[]
  methods := #[]
  instanceTypes := #[]
  staticTypes := #[]
  resolved := Array.replicate 8 none
  statics := none }

/-- the primitive byte -/
def k8 : Class := { plain "byte" none with kind := .primitive 'B', accessFlags := 0x411 }
/-- [B -/
def k9 : Class := { plain "[B" (some 0) with kind := .array 8 .byte, interfaces := #[7, 4], accessFlags := 1041 }

/-- the primitive int -/
def k10 : Class := { plain "int" none with kind := .primitive 'I', accessFlags := 0x411 }
/-- [I -/
def k11 : Class := { plain "[I" (some 0) with kind := .array 10 .int, interfaces := #[7, 4], accessFlags := 1041 }

def heap : Heap := #[{ cls := 6, slots := #[.ref 1, .ref 2, .ref 3, .ref 4, .ref 5, .ref 6, .ref 7, .ref 8, .ref 9, .ref 10, .ref 11, .ref 12, .ref 13, .null], vm := .statics 6 },
  { cls := 6, slots := #[.null, .int 0, .int 0, .int 0, .int 0], vm := .none },
  { cls := 6, slots := #[.null, .int 0, .int 0, .int 4, .int 1], vm := .none },
  { cls := 6, slots := #[.null, .int 0, .int 0, .int 8, .int 1], vm := .none },
  { cls := 6, slots := #[.null, .int 0, .int 0, .int 4, .int 1], vm := .none },
  { cls := 6, slots := #[.null, .int 0, .int 0, .int 8, .int 1], vm := .none },
  { cls := 6, slots := #[.null, .int 0, .int 0, .int 0, .int 0], vm := .none },
  { cls := 6, slots := #[.null, .int 0, .int 0, .int 6, .int 0], vm := .none },
  { cls := 6, slots := #[.null, .int 0, .int 0, .int 4, .int 1], vm := .none },
  { cls := 6, slots := #[.null, .int 0, .int 0, .int 0, .int 0], vm := .none },
  { cls := 6, slots := #[.null, .int 0, .int 0, .int 0, .int 0], vm := .none },
  { cls := 6, slots := #[.null, .int 0, .int 0, .int 0, .int 0], vm := .none },
  { cls := 6, slots := #[.null, .int 0, .int 0, .int 4, .int 1], vm := .none },
  { cls := 6, slots := #[.null, .int 0, .int 0, .int 0, .int 0], vm := .none }]
def classes : Array Class := #[k0, k1, k2, k3, k4, k5, k6, k7, k8, k9, k10, k11]
def interned : List (Array UInt16 × Addr) := []
def slotsUsed : Nat := 79
def theMethod : MethodId := ⟨1, 3⟩
def args0 : Array Value := #[.int 5, .int 7, .int 8]
def aboutOver (below : List Frame) : State where
  vm := { classes := classes, interned := interned.toArray }
  heap := heap
  slotsUsed := slotsUsed
  threads := #[{ frames := .invoking theMethod args0 :: below }]
def below0 : List Frame := [.native { method := ⟨0, 0⟩, args := #[] }]
def about1 : State := aboutOver below0
def p0 : Program := .bare "" "" ""
def e0 : Env := launch0.env 0 0 0
theorem w_frames : about1.frames = Frame.invoking theMethod args0 :: below0 := rfl
set_option maxRecDepth 65536 in
theorem w_args : argsFit about1.vm theMethod args0 = true := by decide +kernel
set_option maxRecDepth 65536 in
theorem w_heap : heapFits about1 = true := by decide +kernel
set_option maxRecDepth 65536 in
theorem w_runnable : about1.curStatus? = some .runnable := by decide +kernel
set_option maxRecDepth 65536 in
theorem w_alone : about1.alone = true := by decide +kernel
set_option maxRecDepth 65536 in
theorem w_named : about1.methodNamed? x = some theMethod := by decide +kernel
set_option maxRecDepth 65536 in
theorem w_hears : about1.hears theMethod below0 = true := by decide +kernel
set_option maxRecDepth 65536 in
theorem w_ripe : about1.ripe theMethod args0 below0 = true := by decide +kernel
theorem w_running : about1.status = .running := rfl
set_option maxRecDepth 65536 in
theorem w_room : about1.hasRoom e0.platform room_1 = true :=
  launch0.hasRoom_least _ room_1 (by decide +kernel) (by decide +kernel) (by decide +kernel) (by decide +kernel) (by decide +kernel) (by decide +kernel)
theorem allAtoms_all (ts : List Jvm.Cond) (a : Array Jvm.Value) (st : Jvm.State) : (allAtoms ts).before a st = ts.all (fun c => c.before a st) := by
  induction ts with
  | nil => rfl
  | cons c t ih =>
    show (Jvm.Cond.and c (allAtoms t)).before a st = _
    rw [Jvm.Cond.before_and, ih, List.all_cons]
def words1 : List Jvm.Cond := Jvm.Cond.code x code maxLocals ret :: tables_1
/-- a 'code' word, met by the world's own term for the bytes: nothing is compared byte by byte -/
theorem code_word {y : MethodName} {bytes : ByteArray} {mx : Nat} {rt : Option FieldType} {a : Array Value} {s : State} {m : MethodId} {meth : Method} {c : Code} (h1 : s.methodNamed? y = some m) (h2 : s.vm.method? m = some meth) (h3 : meth.code = some c) (h4 : c.code = bytes)
    (h5 : (c.maxLocals == mx && c.exceptionTable.isEmpty && decide (c.maxStack ≤ mostOperands) && decide (meth.sig.returnType = rt) && !meth.locks && decide (parseMethodDescriptor y.desc = some meth.sig)) = true) : (Jvm.Cond.code y bytes mx rt).before a s = true := by
  simp only [Bool.and_eq_true, beq_iff_eq, Bool.not_eq_true', decide_eq_true_eq] at h5
  obtain ⟨⟨⟨⟨⟨g1, g2⟩, g3⟩, g4⟩, g5⟩, g6⟩ := h5
  simp [Cond.before, Cond.holds, Cond.value, h1, h2, h3, h4, g1, g2, g3, g4, g5, g6]
def isCode : Jvm.Cond → Bool
  | .code _ _ _ _ => true
  | _ => false
theorem all_split {L : List Jvm.Cond} {P : Jvm.Cond → Bool} (h1 : L.all (fun c => isCode c || P c) = true) (h2 : ∀ c ∈ L.filter isCode, P c = true) : L.all P = true := by
  refine List.all_eq_true.mpr fun c hc => ?_
  have h := List.all_eq_true.mp h1 c hc
  rcases Bool.eq_false_or_eq_true (isCode c) with hi | hi
  · exact h2 c (List.mem_filter.mpr ⟨hc, hi⟩)
  · simpa [hi] using h
set_option maxRecDepth 65536 in
theorem w_c0 : (Jvm.Cond.code x code maxLocals ret).before args0 about1 = true := code_word (m := ⟨1, 3⟩) (meth := k1m3) (c := k1c3) (by decide +kernel) rfl rfl rfl (by decide +kernel)
set_option maxRecDepth 65536 in
theorem w_c1 : (Jvm.Cond.code ({ cls := "com/example/tariffwise/tariffwise/diameter/AvpTypeFitsPinLaw", name := "pick", desc := "(I)Lcom/example/tariffwise/tariffwise/diameter/AvpType;" } : Jvm.MethodName) method_2_code (1 : Nat) (Option.some (Jvm.ClassFile.FieldType.object "com/example/tariffwise/tariffwise/diameter/AvpType"))).before args0 about1 = true := code_word (m := ⟨1, 1⟩) (meth := k1m1) (c := k1c1) (by decide +kernel) rfl rfl rfl (by decide +kernel)
set_option maxRecDepth 65536 in
theorem w_c2 : (Jvm.Cond.code ({ cls := "com/example/tariffwise/tariffwise/diameter/AvpType", name := "fits", desc := "(I)Z" } : Jvm.MethodName) prog_15_method_5_code (2 : Nat) (Option.some Jvm.ClassFile.FieldType.boolean)).before args0 about1 = true := code_word (m := ⟨6, 0⟩) (meth := k6m0) (c := k6c0) (by decide +kernel) rfl rfl rfl (by decide +kernel)
set_option maxRecDepth 65536 in
theorem w_c3 : (Jvm.Cond.code ({ cls := "com/example/tariffwise/tariffwise/diameter/AvpTypeFitsPinLaw", name := "onlyLength", desc := "(I)I" } : Jvm.MethodName) method_3_code (1 : Nat) (Option.some Jvm.ClassFile.FieldType.int)).before args0 about1 = true := code_word (m := ⟨1, 2⟩) (meth := k1m2) (c := k1c2) (by decide +kernel) rfl rfl rfl (by decide +kernel)
def codes1 : List Jvm.Cond := [Jvm.Cond.code x code maxLocals ret, Jvm.Cond.code ({ cls := "com/example/tariffwise/tariffwise/diameter/AvpTypeFitsPinLaw", name := "pick", desc := "(I)Lcom/example/tariffwise/tariffwise/diameter/AvpType;" } : Jvm.MethodName) method_2_code (1 : Nat) (Option.some (Jvm.ClassFile.FieldType.object "com/example/tariffwise/tariffwise/diameter/AvpType")), Jvm.Cond.code ({ cls := "com/example/tariffwise/tariffwise/diameter/AvpType", name := "fits", desc := "(I)Z" } : Jvm.MethodName) prog_15_method_5_code (2 : Nat) (Option.some Jvm.ClassFile.FieldType.boolean), Jvm.Cond.code ({ cls := "com/example/tariffwise/tariffwise/diameter/AvpTypeFitsPinLaw", name := "onlyLength", desc := "(I)I" } : Jvm.MethodName) method_3_code (1 : Nat) (Option.some Jvm.ClassFile.FieldType.int)]
set_option maxRecDepth 65536 in
theorem codes_eq : words1.filter isCode = codes1 := rfl
theorem w_codes : ∀ c ∈ words1.filter isCode, c.before args0 about1 = true := by
  rw [codes_eq]
  intro c hc
  simp only [codes1, List.mem_cons, List.not_mem_nil, or_false] at hc
  rcases hc with rfl | rfl | rfl | rfl
  · exact w_c0
  · exact w_c1
  · exact w_c2
  · exact w_c3
set_option maxRecDepth 65536 in
theorem w_t1 : (words1.take 24).all (fun c => isCode c || c.before args0 about1) = true := by decide +kernel
set_option maxRecDepth 65536 in
theorem w_t2 : (words1.drop 24).all (fun c => isCode c || c.before args0 about1) = true := by decide +kernel
theorem w_tables : (allAtoms (Jvm.Cond.code x code maxLocals ret :: tables_1)).before args0 about1 = true := by
  rw [allAtoms_all]
  show words1.all (fun c => c.before args0 about1) = true
  refine all_split ?_ w_codes
  rw [← List.take_append_drop 24 words1, List.all_append, w_t1, w_t2]
  rfl
set_option maxRecDepth 65536 in
theorem w_case : (Jvm.Cond.and given_1 narrow_1).before args0 about1 = true := by decide +kernel
theorem w_applies : (headSpec (Jvm.Cond.code x code maxLocals ret :: tables_1) room_1).applies x e0.platform about1 = true :=
  (Spec.applies_iff w_frames).mpr ⟨w_running, w_runnable, w_alone, w_named, w_hears, w_ripe, w_room, w_tables⟩
theorem atStart : AtStart classFile x code maxLocals ret World_1 tables_1 room_1 Calls_1 rest_1 Pre_1 launch0 p0 e0 about1 theMethod args0 below0 :=
  ⟨lists_1, trivial, launch0.admits_env _ _ _, launch0.least_env, fairChoices_fair.cas, fairChoices_fair.clock, w_frames, w_args, w_heap, w_applies, trivial, trivial, w_case⟩
end start1
theorem witness_1 : WitnessClaimed_1 := ⟨start1.p0, start1.e0, start1.about1, start1.theMethod, start1.args0, start1.below0, start1.atStart⟩
end Jvm.Pilot.@@N@@
