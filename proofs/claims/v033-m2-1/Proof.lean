import JvmDerived
import JvmDerived.Pilot.@@N@@Statement
import JvmDerived.Pilot.@@N@@Code
set_option linter.unusedVariables false
set_option linter.unusedSimpArgs false
namespace Jvm.RoadKit
open Sem ClassFile Op Lib Jvm.Stand Jvm.Free Jvm.LawKit
section New
variable {p : Program} {l : Launch} {e : Env} {R : Room} {s : State} {m : MethodId} {args : Array Value} {below : List Frame} {meth : Method} {c : Code} {T : State} {locs : List Loc} {cells slots : Nat}
theorem retI (X : Stand p l e R s m args below meth c T locs cells slots) (hx : p.tables.exec = Jvm.exec) {pc : Nat} {Ls : Array Slot} {z : Int32} {rest : List Value} (hret : meth.sig.returnType = some .int) (hd : decode c.code pc = .ok (.ireturn, 1)) {fs : List Frame}
    (hl : ∀ (f : JFrame) (acts : List Action), f.method = m → f.locked = none → f.entered = [] → (doReturn e (T.setTop f) acts (some (.int z))).1 = T.setFrames fs) : Steps p.tables e below (T.setTop (mkF m pc Ls (.int z :: rest))) (T.setFrames fs) := by
  have hm' : T.vm.method? m = some meth := X.method'
  have hn : narrow .int (.int z) = .int z := rfl
  show Steps p.tables e below (T.setTop { method := m, pc := pc, locals := Ls, stack := _ :: rest, locked := none }) _
  jvm_step X.here [X.here.top, hx, hd, hm', hret, hn]
  first | (intro acts; rw [hl _ acts rfl rfl rfl]) | rw [hl _ _ rfl rfl rfl]
  exact Steps.refl _
theorem retJ (X : Stand p l e R s m args below meth c T locs cells slots) (hx : p.tables.exec = Jvm.exec) {pc : Nat} {Ls : Array Slot} {z : Int64} {rest : List Value} (hret : meth.sig.returnType = some .long) (hd : decode c.code pc = .ok (.lreturn, 1)) {fs : List Frame}
    (hl : ∀ (f : JFrame) (acts : List Action), f.method = m → f.locked = none → f.entered = [] → (doReturn e (T.setTop f) acts (some (.long z))).1 = T.setFrames fs) : Steps p.tables e below (T.setTop (mkF m pc Ls (.long z :: rest))) (T.setFrames fs) := by
  have hm' : T.vm.method? m = some meth := X.method'
  show Steps p.tables e below (T.setTop { method := m, pc := pc, locals := Ls, stack := _ :: rest, locked := none }) _
  jvm_step X.here [X.here.top, hx, hd, hm', hret, narrow]
  first | (intro acts; rw [hl _ acts rfl rfl rfl]) | rw [hl _ _ rfl rfl rfl]
  exact Steps.refl _
theorem retA (X : Stand p l e R s m args below meth c T locs cells slots) (hx : p.tables.exec = Jvm.exec) {pc : Nat} {Ls : Array Slot} {z : Value} {t : FieldType} {rest : List Value} (hret : meth.sig.returnType = some t) (ht : t.isReference = true) (hz : z.isRef = true) (hd : decode c.code pc = .ok (.areturn, 1)) {fs : List Frame}
    (hl : ∀ (f : JFrame) (acts : List Action), f.method = m → f.locked = none → f.entered = [] → (doReturn e (T.setTop f) acts (some z)).1 = T.setFrames fs) : Steps p.tables e below (T.setTop (mkF m pc Ls (z :: rest))) (T.setFrames fs) := by
  have hm' : T.vm.method? m = some meth := X.method'
  show Steps p.tables e below (T.setTop { method := m, pc := pc, locals := Ls, stack := _ :: rest, locked := none }) _
  jvm_step X.here [X.here.top, hx, hd, hm', hret, hz, ht]
  first | (intro acts; rw [hl _ acts rfl rfl rfl]) | rw [hl _ _ rfl rfl rfl]
  exact Steps.refl _
/-- what a body's contract owes from a state on -/
def Owe (p : Program) (e : Env) (below : List Frame) (first : State) (ck sk : Nat) (Q : Option Value → Heap → List Loc → Prop) (T : State) (g : JFrame) : Prop :=
  ∃ s₂ o, Steps p.tables e below (T.setTop g) s₂ ∧ s₂.status = .running ∧ Ended s₂ below o ∧ ∃ v L, o = .returned v ∧ Q v s₂.heap L ∧ FrameEnd first o s₂ L ck sk
theorem Owe.step {first : State} {ck sk : Nat} {Q : Option Value → Heap → List Loc → Prop} {T T' : State} {g g' : JFrame} (h : ∀ t, Steps p.tables e below (T'.setTop g') t → Steps p.tables e below (T.setTop g) t)
    (k : Owe p e below first ck sk Q T' g') : Owe p e below first ck sk Q T g := by
  obtain ⟨s₂, o, h1, h2⟩ := k
  exact ⟨s₂, o, h _ h1, h2⟩
theorem Owe.ret {ck sk : Nat} {Q : Option Value → Heap → List Loc → Prop} {g : JFrame} (X : Stand p l e R s m args below meth c T locs cells slots) (hlk : meth.locks = false) {v : Option Value} (hv : meth.sig.returnType = none → v = none)
    (hst : ∀ fs, (∀ (f : JFrame) (acts : List Action), f.method = m → f.locked = none → f.entered = [] → (doReturn e (T.setTop f) acts v).1 = T.setFrames fs) → Steps p.tables e below (T.setTop g) (T.setFrames fs))
    (hQ : Q v T.heap locs) (hc : cells ≤ ck) (hs : slots ≤ sk) : Owe p e below s ck sk Q T g := by
  obtain ⟨fs, hr, hrun, hended, hW, hsame⟩ := X.leave (v := v) hv hlk
  exact ⟨_, _, hst fs hr, hrun, hended, _, _, rfl, hQ, ⟨_, rfl⟩, hW, hsame.mono hc hs⟩
/-- a body that writes nothing and makes nothing: it returns w -/
def QP (w : Value) (h0 : Heap) (n0 : Nat) (v : Option Value) (h : Heap) (L : List Loc) : Prop := v = some w ∧ Fr n0 L ∧ h = h0
/-- .. and returns nothing -/
def QN (h0 : Heap) (n0 : Nat) (v : Option Value) (h : Heap) (L : List Loc) : Prop := v = none ∧ Fr n0 L ∧ h = h0
/-- the law itself -/
def QL (w : Value) (n0 : Nat) (v : Option Value) (h : Heap) (L : List Loc) : Prop := v = some w ∧ Fr n0 L
theorem Owe.cast {first : State} {ck sk n0 : Nat} {w w' : Int32} {g : JFrame} (q : w' = w) (k : Owe p e below first ck sk (QL (.int w') n0) T g) : Owe p e below first ck sk (QL (.int w) n0) T g := q ▸ k
end New
end Jvm.RoadKit
namespace Jvm.Pilot.@@N@@
open Jvm Jvm.ClassFile Sem Op Lib Jvm.Free Jvm.Stand Jvm.LawKit Jvm.RoadKit Bundle Jvm.Pilot.@@N@@.Jvm.D
theorem own_irem (x y : Int32) : x - (x / y) * y = x % y := by
  apply Int32.toInt_inj.mp
  have h1 := Int32.le_toInt (x % y)
  have h2 := Int32.toInt_lt (x % y)
  rw [Int32.toInt_sub, Int32.toInt_mul, Int32.toInt_div, Int.bmod_mul_bmod, Int.sub_bmod_bmod, Int.mul_comm (x.toInt.tdiv y.toInt), ← Int.tmod_def, ← Int32.toInt_mod]
  exact Int.bmod_eq_of_le_mul_two (by omega) (by omega)
/-- an index, told by its int -/
theorem own_ix {j : Int32} {n : Nat} (h0 : 0 ≤ j.toInt) (h1 : j.toInt < (n : Int)) : ¬ j < 0 ∧ j.toNatClampNeg < n := by
  rw [Int32.lt_iff_toInt_lt]
  have e0 : (0 : Int32).toInt = 0 := rfl
  have e1 : j.toNatClampNeg = j.toInt.toNat := rfl
  rw [e0, e1]; omega
theorem own_d1_0 : decode method_2_code 0 = .ok (.iload_n 0, 1) := by decide +kernel
theorem own_d1_1 : decode method_2_code 1 = .ok (.tableswitch 183 0 20 #[99, 103, 107, 111, 115, 119, 123, 127, 131, 135, 139, 143, 147, 151, 155, 159, 163, 167, 171, 175, 179], 99) := by decide +kernel
theorem own_d1_100 : decode method_2_code 100 = .ok (.getstatic 7, 3) := by decide +kernel
theorem own_d1_103 : decode method_2_code 103 = .ok (.areturn, 1) := by decide +kernel
theorem own_d1_104 : decode method_2_code 104 = .ok (.getstatic 13, 3) := by decide +kernel
theorem own_d1_107 : decode method_2_code 107 = .ok (.areturn, 1) := by decide +kernel
theorem own_d1_108 : decode method_2_code 108 = .ok (.getstatic 16, 3) := by decide +kernel
theorem own_d1_111 : decode method_2_code 111 = .ok (.areturn, 1) := by decide +kernel
theorem own_d1_112 : decode method_2_code 112 = .ok (.getstatic 19, 3) := by decide +kernel
theorem own_d1_115 : decode method_2_code 115 = .ok (.areturn, 1) := by decide +kernel
theorem own_d1_116 : decode method_2_code 116 = .ok (.getstatic 22, 3) := by decide +kernel
theorem own_d1_119 : decode method_2_code 119 = .ok (.areturn, 1) := by decide +kernel
theorem own_d1_120 : decode method_2_code 120 = .ok (.getstatic 25, 3) := by decide +kernel
theorem own_d1_123 : decode method_2_code 123 = .ok (.areturn, 1) := by decide +kernel
theorem own_d1_124 : decode method_2_code 124 = .ok (.getstatic 28, 3) := by decide +kernel
theorem own_d1_127 : decode method_2_code 127 = .ok (.areturn, 1) := by decide +kernel
theorem own_d1_128 : decode method_2_code 128 = .ok (.getstatic 31, 3) := by decide +kernel
theorem own_d1_131 : decode method_2_code 131 = .ok (.areturn, 1) := by decide +kernel
theorem own_d1_132 : decode method_2_code 132 = .ok (.getstatic 34, 3) := by decide +kernel
theorem own_d1_135 : decode method_2_code 135 = .ok (.areturn, 1) := by decide +kernel
theorem own_d1_136 : decode method_2_code 136 = .ok (.getstatic 37, 3) := by decide +kernel
theorem own_d1_139 : decode method_2_code 139 = .ok (.areturn, 1) := by decide +kernel
theorem own_d1_140 : decode method_2_code 140 = .ok (.getstatic 40, 3) := by decide +kernel
theorem own_d1_143 : decode method_2_code 143 = .ok (.areturn, 1) := by decide +kernel
theorem own_d1_144 : decode method_2_code 144 = .ok (.getstatic 43, 3) := by decide +kernel
theorem own_d1_147 : decode method_2_code 147 = .ok (.areturn, 1) := by decide +kernel
theorem own_d1_148 : decode method_2_code 148 = .ok (.getstatic 46, 3) := by decide +kernel
theorem own_d1_151 : decode method_2_code 151 = .ok (.areturn, 1) := by decide +kernel
theorem own_d1_152 : decode method_2_code 152 = .ok (.getstatic 49, 3) := by decide +kernel
theorem own_d1_155 : decode method_2_code 155 = .ok (.areturn, 1) := by decide +kernel
theorem own_d1_156 : decode method_2_code 156 = .ok (.getstatic 52, 3) := by decide +kernel
theorem own_d1_159 : decode method_2_code 159 = .ok (.areturn, 1) := by decide +kernel
theorem own_d1_160 : decode method_2_code 160 = .ok (.getstatic 55, 3) := by decide +kernel
theorem own_d1_163 : decode method_2_code 163 = .ok (.areturn, 1) := by decide +kernel
theorem own_d1_164 : decode method_2_code 164 = .ok (.getstatic 58, 3) := by decide +kernel
theorem own_d1_167 : decode method_2_code 167 = .ok (.areturn, 1) := by decide +kernel
theorem own_d1_168 : decode method_2_code 168 = .ok (.getstatic 61, 3) := by decide +kernel
theorem own_d1_171 : decode method_2_code 171 = .ok (.areturn, 1) := by decide +kernel
theorem own_d1_172 : decode method_2_code 172 = .ok (.getstatic 64, 3) := by decide +kernel
theorem own_d1_175 : decode method_2_code 175 = .ok (.areturn, 1) := by decide +kernel
theorem own_d1_176 : decode method_2_code 176 = .ok (.getstatic 67, 3) := by decide +kernel
theorem own_d1_179 : decode method_2_code 179 = .ok (.areturn, 1) := by decide +kernel
theorem own_d1_180 : decode method_2_code 180 = .ok (.getstatic 70, 3) := by decide +kernel
theorem own_d1_183 : decode method_2_code 183 = .ok (.areturn, 1) := by decide +kernel
theorem own_d1_184 : decode method_2_code 184 = .ok (.getstatic 73, 3) := by decide +kernel
theorem own_d1_187 : decode method_2_code 187 = .ok (.areturn, 1) := by decide +kernel
theorem own_pn0 : plainName "com/example/swapscribe/swapscribe/trs/SAndPRatingIsAtLeastPinLaw" = true := by first | (simp [plainName, overriddenIn]; done) | decide +kernel
theorem own_ef1 (m : MethodId) (p0 : Int32) : entryFrame m #[(.int p0)] 1 = mkF m 0 #[.val (.int p0)] [] := by first | (simp [entryFrame, mkF, argsToLocals, Value.category]; done) | rfl
def own_f1_0 (p0 : Int32) (w_AAA : Addr) (w_AA_PLUS : Addr) (w_AA : Addr) (w_AA_MINUS : Addr) (w_A_PLUS : Addr) (w_A : Addr) (w_A_MINUS : Addr) (w_BBB_PLUS : Addr) (w_BBB : Addr) (w_BBB_MINUS : Addr) (w_BB_PLUS : Addr) (w_BB : Addr) (w_BB_MINUS : Addr) (w_B_PLUS : Addr) (w_B : Addr) (w_B_MINUS : Addr) (w_CCC_PLUS : Addr) (w_CCC : Addr) (w_CCC_MINUS : Addr) (w_CC : Addr) (w_C : Addr) (w_D : Addr) : Addr := (if p0 = (0 : Int32) then w_AAA else (if p0 = (1 : Int32) then w_AA_PLUS else (if p0 = (2 : Int32) then w_AA else (if p0 = (3 : Int32) then w_AA_MINUS else (if p0 = (4 : Int32) then w_A_PLUS else (if p0 = (5 : Int32) then w_A else (if p0 = (6 : Int32) then w_A_MINUS else (if p0 = (7 : Int32) then w_BBB_PLUS else (if p0 = (8 : Int32) then w_BBB else (if p0 = (9 : Int32) then w_BBB_MINUS else (if p0 = (10 : Int32) then w_BB_PLUS else (if p0 = (11 : Int32) then w_BB else (if p0 = (12 : Int32) then w_BB_MINUS else (if p0 = (13 : Int32) then w_B_PLUS else (if p0 = (14 : Int32) then w_B else (if p0 = (15 : Int32) then w_B_MINUS else (if p0 = (16 : Int32) then w_CCC_PLUS else (if p0 = (17 : Int32) then w_CCC else (if p0 = (18 : Int32) then w_CCC_MINUS else (if p0 = (19 : Int32) then w_CC else (if p0 = (20 : Int32) then w_C else w_D)))))))))))))))))))))
set_option maxRecDepth 65536 in
set_option maxHeartbeats 40000000 in
theorem own_rm1 (l : Launch) (Z : State) (aA : Array Value) (hw : ∀ d ∈ tables_1, d.before aA Z = true) (ws : List Jvm.Cond) (p0 : Int32) (w_AAA : Addr) (w_AA_PLUS : Addr) (w_AA : Addr) (w_AA_MINUS : Addr) (w_A_PLUS : Addr) (w_A : Addr) (w_A_MINUS : Addr) (w_BBB_PLUS : Addr) (w_BBB : Addr) (w_BBB_MINUS : Addr) (w_BB_PLUS : Addr) (w_BB : Addr) (w_BB_MINUS : Addr) (w_B_PLUS : Addr) (w_B : Addr) (w_B_MINUS : Addr) (w_CCC_PLUS : Addr) (w_CCC : Addr) (w_CCC_MINUS : Addr) (w_CC : Addr) (w_C : Addr) (w_D : Addr) (h0 : Heap) (n0 : Nat) (Z0 : n0 ≤ h0.size) (S_AAA : Sta Z h0 "com/example/swapscribe/swapscribe/trs/SAndPRating" "AAA" "Lcom/example/swapscribe/swapscribe/trs/SAndPRating;" (.ref w_AAA)) (S_AA_PLUS : Sta Z h0 "com/example/swapscribe/swapscribe/trs/SAndPRating" "AA_PLUS" "Lcom/example/swapscribe/swapscribe/trs/SAndPRating;" (.ref w_AA_PLUS)) (S_AA : Sta Z h0 "com/example/swapscribe/swapscribe/trs/SAndPRating" "AA" "Lcom/example/swapscribe/swapscribe/trs/SAndPRating;" (.ref w_AA)) (S_AA_MINUS : Sta Z h0 "com/example/swapscribe/swapscribe/trs/SAndPRating" "AA_MINUS" "Lcom/example/swapscribe/swapscribe/trs/SAndPRating;" (.ref w_AA_MINUS)) (S_A_PLUS : Sta Z h0 "com/example/swapscribe/swapscribe/trs/SAndPRating" "A_PLUS" "Lcom/example/swapscribe/swapscribe/trs/SAndPRating;" (.ref w_A_PLUS)) (S_A : Sta Z h0 "com/example/swapscribe/swapscribe/trs/SAndPRating" "A" "Lcom/example/swapscribe/swapscribe/trs/SAndPRating;" (.ref w_A)) (S_A_MINUS : Sta Z h0 "com/example/swapscribe/swapscribe/trs/SAndPRating" "A_MINUS" "Lcom/example/swapscribe/swapscribe/trs/SAndPRating;" (.ref w_A_MINUS)) (S_BBB_PLUS : Sta Z h0 "com/example/swapscribe/swapscribe/trs/SAndPRating" "BBB_PLUS" "Lcom/example/swapscribe/swapscribe/trs/SAndPRating;" (.ref w_BBB_PLUS)) (S_BBB : Sta Z h0 "com/example/swapscribe/swapscribe/trs/SAndPRating" "BBB" "Lcom/example/swapscribe/swapscribe/trs/SAndPRating;" (.ref w_BBB)) (S_BBB_MINUS : Sta Z h0 "com/example/swapscribe/swapscribe/trs/SAndPRating" "BBB_MINUS" "Lcom/example/swapscribe/swapscribe/trs/SAndPRating;" (.ref w_BBB_MINUS)) (S_BB_PLUS : Sta Z h0 "com/example/swapscribe/swapscribe/trs/SAndPRating" "BB_PLUS" "Lcom/example/swapscribe/swapscribe/trs/SAndPRating;" (.ref w_BB_PLUS)) (S_BB : Sta Z h0 "com/example/swapscribe/swapscribe/trs/SAndPRating" "BB" "Lcom/example/swapscribe/swapscribe/trs/SAndPRating;" (.ref w_BB)) (S_BB_MINUS : Sta Z h0 "com/example/swapscribe/swapscribe/trs/SAndPRating" "BB_MINUS" "Lcom/example/swapscribe/swapscribe/trs/SAndPRating;" (.ref w_BB_MINUS)) (S_B_PLUS : Sta Z h0 "com/example/swapscribe/swapscribe/trs/SAndPRating" "B_PLUS" "Lcom/example/swapscribe/swapscribe/trs/SAndPRating;" (.ref w_B_PLUS)) (S_B : Sta Z h0 "com/example/swapscribe/swapscribe/trs/SAndPRating" "B" "Lcom/example/swapscribe/swapscribe/trs/SAndPRating;" (.ref w_B)) (S_B_MINUS : Sta Z h0 "com/example/swapscribe/swapscribe/trs/SAndPRating" "B_MINUS" "Lcom/example/swapscribe/swapscribe/trs/SAndPRating;" (.ref w_B_MINUS)) (S_CCC_PLUS : Sta Z h0 "com/example/swapscribe/swapscribe/trs/SAndPRating" "CCC_PLUS" "Lcom/example/swapscribe/swapscribe/trs/SAndPRating;" (.ref w_CCC_PLUS)) (S_CCC : Sta Z h0 "com/example/swapscribe/swapscribe/trs/SAndPRating" "CCC" "Lcom/example/swapscribe/swapscribe/trs/SAndPRating;" (.ref w_CCC)) (S_CCC_MINUS : Sta Z h0 "com/example/swapscribe/swapscribe/trs/SAndPRating" "CCC_MINUS" "Lcom/example/swapscribe/swapscribe/trs/SAndPRating;" (.ref w_CCC_MINUS)) (S_CC : Sta Z h0 "com/example/swapscribe/swapscribe/trs/SAndPRating" "CC" "Lcom/example/swapscribe/swapscribe/trs/SAndPRating;" (.ref w_CC)) (S_C : Sta Z h0 "com/example/swapscribe/swapscribe/trs/SAndPRating" "C" "Lcom/example/swapscribe/swapscribe/trs/SAndPRating;" (.ref w_C)) (S_D : Sta Z h0 "com/example/swapscribe/swapscribe/trs/SAndPRating" "D" "Lcom/example/swapscribe/swapscribe/trs/SAndPRating;" (.ref w_D)) :
    MetFree l (⟨"com/example/swapscribe/swapscribe/trs/SAndPRatingIsAtLeastPinLaw", "atRank", "(I)Lcom/example/swapscribe/swapscribe/trs/SAndPRating;"⟩ : MethodName) (head1 (Jvm.Cond.code (⟨"com/example/swapscribe/swapscribe/trs/SAndPRatingIsAtLeastPinLaw", "atRank", "(I)Lcom/example/swapscribe/swapscribe/trs/SAndPRating;"⟩ : MethodName) method_2_code 1 (some (.object "com/example/swapscribe/swapscribe/trs/SAndPRating")) :: ws) ({ frames := 0, cells := 0, slots := 0, locals := 0 } : Room)) (fun a U => a = #[(.int p0)] ∧ Z.Warmed39 U.vm ∧ U.heap = h0) (fun _ _ _ _ _ => True) (fun _ U o U' => ∃ v L, o = .returned v ∧ (QP (.ref (own_f1_0 p0 w_AAA w_AA_PLUS w_AA w_AA_MINUS w_A_PLUS w_A w_A_MINUS w_BBB_PLUS w_BBB w_BBB_MINUS w_BB_PLUS w_BB w_BB_MINUS w_B_PLUS w_B w_B_MINUS w_CCC_PLUS w_CCC w_CCC_MINUS w_CC w_C w_D)) h0 n0) v U'.heap L ∧ FrameEnd U o U' L ({ frames := 0, cells := 0, slots := 0, locals := 0 } : Room).cells ({ frames := 0, cells := 0, slots := 0, locals := 0 } : Room).slots) := by
  refine MetFree.of_bodySF (plainFor_of_name own_pn0) hisR ?_
  intro p e s m args below meth c s₁ Bd hml0 hP hK
  obtain ⟨rfl, hZ, hh⟩ := hP
  have hx := Bd.exec
  have hby := Bd.bytes
  have hml : c.maxLocals = 1 := hml0
  have hown : s.vm.findClass "com/example/swapscribe/swapscribe/trs/SAndPRatingIsAtLeastPinLaw" = some m.cls := findClass_of_methodNamed Bd.named
  have hnm := (name_of_methodNamed Bd.named Bd.method).1
  have X0 : Stand p l e ({ frames := 0, cells := 0, slots := 0, locals := 0 } : Room) s m #[(.int p0)] below meth c s₁ [] 0 0 := Stand.of_body Bd
  have e0 : s₁.heap = h0 := by rw [← hh, Bd.state]; rfl
  have N0 := Fr.nil n0
  refine Owe.step (T := s₁) (T' := s₁) (g' := (mkF m 0 #[.val (.int p0)] [])) (fun t k => castTop (own_ef1 m p0) k) ?_
  refine Owe.step (T' := s₁) (g' := (mkF m 1 #[.val (.int p0)] [(.int p0)])) (fun t k => ?_) ?_
  · show Steps p.tables e below (s₁.setTop (mkF m 0 #[.val (.int p0)] [])) t
    refine XS.iloadN X0.here hx rfl (hb hby own_d1_0) rfl ?_
    show Steps p.tables e below (s₁.setTop (mkF m 1 #[.val (.int p0)] [(.int p0)])) t
    exact k
  by_cases hc1_0 : p0 = (0 : Int32)
  · refine Owe.step (T' := s₁) (g' := (mkF m 100 #[.val (.int p0)] [])) (fun t k => ?_) ?_
    · show Steps p.tables e below (s₁.setTop (mkF m 1 #[.val (.int p0)] [(.int p0)])) t
      refine XS.tswIn X0.here hx rfl (pc0 := 1) (pc' := 100) rfl (hb hby own_d1_1) rfl (by rw [hc1_0]; decide) (o := 99) (by rw [hc1_0]; rfl) (by decide) (by decide) ?_
      show Steps p.tables e below (s₁.setTop (mkF m 100 #[.val (.int p0)] [])) t
      exact k
    obtain ⟨T1, X1, e1, st1⟩ := getS2 X0 hx hZ hown (host := "") (Or.inl (hw _ (List.mem_of_getElem? (i := 5) rfl))) Via.refl e0 S_AAA (g := (mkF m 100 #[.val (.int p0)] [])) rfl (hb hby own_d1_100)
    refine Owe.step (T' := T1) (g' := (mkF m 103 #[.val (.int p0)] [(.ref w_AAA)])) (fun t k => ?_) ?_
    · show Steps p.tables e below (s₁.setTop (mkF m 100 #[.val (.int p0)] [])) t
      refine st1 _ ?_
      show Steps p.tables e below (T1.setTop (mkF m 103 #[.val (.int p0)] [(.ref w_AAA)])) t
      exact k
    rw [show own_f1_0 p0 w_AAA w_AA_PLUS w_AA w_AA_MINUS w_A_PLUS w_A w_A_MINUS w_BBB_PLUS w_BBB w_BBB_MINUS w_BB_PLUS w_BB w_BB_MINUS w_B_PLUS w_B w_B_MINUS w_CCC_PLUS w_CCC w_CCC_MINUS w_CC w_C w_D = w_AAA from (by rw [own_f1_0, if_pos hc1_0])]
    refine Owe.ret X1 Bd.notSynchronized (v := (some (.ref w_AAA))) (fun h => by rw [Bd.returns] at h; cases h) (fun fs hr => ?_) ⟨rfl, N0, e1⟩ (by decide) (by decide)
    show Steps p.tables e below (T1.setTop (mkF m 103 #[.val (.int p0)] [(.ref w_AAA)])) _
    exact retA X1 hx Bd.returns rfl rfl (hb hby own_d1_103) hr
  by_cases hc1_1 : p0 = (1 : Int32)
  · refine Owe.step (T' := s₁) (g' := (mkF m 104 #[.val (.int p0)] [])) (fun t k => ?_) ?_
    · show Steps p.tables e below (s₁.setTop (mkF m 1 #[.val (.int p0)] [(.int p0)])) t
      refine XS.tswIn X0.here hx rfl (pc0 := 1) (pc' := 104) rfl (hb hby own_d1_1) rfl (by rw [hc1_1]; decide) (o := 103) (by rw [hc1_1]; rfl) (by decide) (by decide) ?_
      show Steps p.tables e below (s₁.setTop (mkF m 104 #[.val (.int p0)] [])) t
      exact k
    obtain ⟨T2, X2, e2, st2⟩ := getS2 X0 hx hZ hown (host := "") (Or.inl (hw _ (List.mem_of_getElem? (i := 26) rfl))) Via.refl e0 S_AA_PLUS (g := (mkF m 104 #[.val (.int p0)] [])) rfl (hb hby own_d1_104)
    refine Owe.step (T' := T2) (g' := (mkF m 107 #[.val (.int p0)] [(.ref w_AA_PLUS)])) (fun t k => ?_) ?_
    · show Steps p.tables e below (s₁.setTop (mkF m 104 #[.val (.int p0)] [])) t
      refine st2 _ ?_
      show Steps p.tables e below (T2.setTop (mkF m 107 #[.val (.int p0)] [(.ref w_AA_PLUS)])) t
      exact k
    rw [show own_f1_0 p0 w_AAA w_AA_PLUS w_AA w_AA_MINUS w_A_PLUS w_A w_A_MINUS w_BBB_PLUS w_BBB w_BBB_MINUS w_BB_PLUS w_BB w_BB_MINUS w_B_PLUS w_B w_B_MINUS w_CCC_PLUS w_CCC w_CCC_MINUS w_CC w_C w_D = w_AA_PLUS from (by rw [own_f1_0, if_neg hc1_0, if_pos hc1_1])]
    refine Owe.ret X2 Bd.notSynchronized (v := (some (.ref w_AA_PLUS))) (fun h => by rw [Bd.returns] at h; cases h) (fun fs hr => ?_) ⟨rfl, N0, e2⟩ (by decide) (by decide)
    show Steps p.tables e below (T2.setTop (mkF m 107 #[.val (.int p0)] [(.ref w_AA_PLUS)])) _
    exact retA X2 hx Bd.returns rfl rfl (hb hby own_d1_107) hr
  by_cases hc1_2 : p0 = (2 : Int32)
  · refine Owe.step (T' := s₁) (g' := (mkF m 108 #[.val (.int p0)] [])) (fun t k => ?_) ?_
    · show Steps p.tables e below (s₁.setTop (mkF m 1 #[.val (.int p0)] [(.int p0)])) t
      refine XS.tswIn X0.here hx rfl (pc0 := 1) (pc' := 108) rfl (hb hby own_d1_1) rfl (by rw [hc1_2]; decide) (o := 107) (by rw [hc1_2]; rfl) (by decide) (by decide) ?_
      show Steps p.tables e below (s₁.setTop (mkF m 108 #[.val (.int p0)] [])) t
      exact k
    obtain ⟨T3, X3, e3, st3⟩ := getS2 X0 hx hZ hown (host := "") (Or.inl (hw _ (List.mem_of_getElem? (i := 50) rfl))) Via.refl e0 S_AA (g := (mkF m 108 #[.val (.int p0)] [])) rfl (hb hby own_d1_108)
    refine Owe.step (T' := T3) (g' := (mkF m 111 #[.val (.int p0)] [(.ref w_AA)])) (fun t k => ?_) ?_
    · show Steps p.tables e below (s₁.setTop (mkF m 108 #[.val (.int p0)] [])) t
      refine st3 _ ?_
      show Steps p.tables e below (T3.setTop (mkF m 111 #[.val (.int p0)] [(.ref w_AA)])) t
      exact k
    rw [show own_f1_0 p0 w_AAA w_AA_PLUS w_AA w_AA_MINUS w_A_PLUS w_A w_A_MINUS w_BBB_PLUS w_BBB w_BBB_MINUS w_BB_PLUS w_BB w_BB_MINUS w_B_PLUS w_B w_B_MINUS w_CCC_PLUS w_CCC w_CCC_MINUS w_CC w_C w_D = w_AA from (by rw [own_f1_0, if_neg hc1_0, if_neg hc1_1, if_pos hc1_2])]
    refine Owe.ret X3 Bd.notSynchronized (v := (some (.ref w_AA))) (fun h => by rw [Bd.returns] at h; cases h) (fun fs hr => ?_) ⟨rfl, N0, e3⟩ (by decide) (by decide)
    show Steps p.tables e below (T3.setTop (mkF m 111 #[.val (.int p0)] [(.ref w_AA)])) _
    exact retA X3 hx Bd.returns rfl rfl (hb hby own_d1_111) hr
  by_cases hc1_3 : p0 = (3 : Int32)
  · refine Owe.step (T' := s₁) (g' := (mkF m 112 #[.val (.int p0)] [])) (fun t k => ?_) ?_
    · show Steps p.tables e below (s₁.setTop (mkF m 1 #[.val (.int p0)] [(.int p0)])) t
      refine XS.tswIn X0.here hx rfl (pc0 := 1) (pc' := 112) rfl (hb hby own_d1_1) rfl (by rw [hc1_3]; decide) (o := 111) (by rw [hc1_3]; rfl) (by decide) (by decide) ?_
      show Steps p.tables e below (s₁.setTop (mkF m 112 #[.val (.int p0)] [])) t
      exact k
    obtain ⟨T4, X4, e4, st4⟩ := getS2 X0 hx hZ hown (host := "") (Or.inl (hw _ (List.mem_of_getElem? (i := 8) rfl))) Via.refl e0 S_AA_MINUS (g := (mkF m 112 #[.val (.int p0)] [])) rfl (hb hby own_d1_112)
    refine Owe.step (T' := T4) (g' := (mkF m 115 #[.val (.int p0)] [(.ref w_AA_MINUS)])) (fun t k => ?_) ?_
    · show Steps p.tables e below (s₁.setTop (mkF m 112 #[.val (.int p0)] [])) t
      refine st4 _ ?_
      show Steps p.tables e below (T4.setTop (mkF m 115 #[.val (.int p0)] [(.ref w_AA_MINUS)])) t
      exact k
    rw [show own_f1_0 p0 w_AAA w_AA_PLUS w_AA w_AA_MINUS w_A_PLUS w_A w_A_MINUS w_BBB_PLUS w_BBB w_BBB_MINUS w_BB_PLUS w_BB w_BB_MINUS w_B_PLUS w_B w_B_MINUS w_CCC_PLUS w_CCC w_CCC_MINUS w_CC w_C w_D = w_AA_MINUS from (by rw [own_f1_0, if_neg hc1_0, if_neg hc1_1, if_neg hc1_2, if_pos hc1_3])]
    refine Owe.ret X4 Bd.notSynchronized (v := (some (.ref w_AA_MINUS))) (fun h => by rw [Bd.returns] at h; cases h) (fun fs hr => ?_) ⟨rfl, N0, e4⟩ (by decide) (by decide)
    show Steps p.tables e below (T4.setTop (mkF m 115 #[.val (.int p0)] [(.ref w_AA_MINUS)])) _
    exact retA X4 hx Bd.returns rfl rfl (hb hby own_d1_115) hr
  by_cases hc1_4 : p0 = (4 : Int32)
  · refine Owe.step (T' := s₁) (g' := (mkF m 116 #[.val (.int p0)] [])) (fun t k => ?_) ?_
    · show Steps p.tables e below (s₁.setTop (mkF m 1 #[.val (.int p0)] [(.int p0)])) t
      refine XS.tswIn X0.here hx rfl (pc0 := 1) (pc' := 116) rfl (hb hby own_d1_1) rfl (by rw [hc1_4]; decide) (o := 115) (by rw [hc1_4]; rfl) (by decide) (by decide) ?_
      show Steps p.tables e below (s₁.setTop (mkF m 116 #[.val (.int p0)] [])) t
      exact k
    obtain ⟨T5, X5, e5, st5⟩ := getS2 X0 hx hZ hown (host := "") (Or.inl (hw _ (List.mem_of_getElem? (i := 56) rfl))) Via.refl e0 S_A_PLUS (g := (mkF m 116 #[.val (.int p0)] [])) rfl (hb hby own_d1_116)
    refine Owe.step (T' := T5) (g' := (mkF m 119 #[.val (.int p0)] [(.ref w_A_PLUS)])) (fun t k => ?_) ?_
    · show Steps p.tables e below (s₁.setTop (mkF m 116 #[.val (.int p0)] [])) t
      refine st5 _ ?_
      show Steps p.tables e below (T5.setTop (mkF m 119 #[.val (.int p0)] [(.ref w_A_PLUS)])) t
      exact k
    rw [show own_f1_0 p0 w_AAA w_AA_PLUS w_AA w_AA_MINUS w_A_PLUS w_A w_A_MINUS w_BBB_PLUS w_BBB w_BBB_MINUS w_BB_PLUS w_BB w_BB_MINUS w_B_PLUS w_B w_B_MINUS w_CCC_PLUS w_CCC w_CCC_MINUS w_CC w_C w_D = w_A_PLUS from (by rw [own_f1_0, if_neg hc1_0, if_neg hc1_1, if_neg hc1_2, if_neg hc1_3, if_pos hc1_4])]
    refine Owe.ret X5 Bd.notSynchronized (v := (some (.ref w_A_PLUS))) (fun h => by rw [Bd.returns] at h; cases h) (fun fs hr => ?_) ⟨rfl, N0, e5⟩ (by decide) (by decide)
    show Steps p.tables e below (T5.setTop (mkF m 119 #[.val (.int p0)] [(.ref w_A_PLUS)])) _
    exact retA X5 hx Bd.returns rfl rfl (hb hby own_d1_119) hr
  by_cases hc1_5 : p0 = (5 : Int32)
  · refine Owe.step (T' := s₁) (g' := (mkF m 120 #[.val (.int p0)] [])) (fun t k => ?_) ?_
    · show Steps p.tables e below (s₁.setTop (mkF m 1 #[.val (.int p0)] [(.int p0)])) t
      refine XS.tswIn X0.here hx rfl (pc0 := 1) (pc' := 120) rfl (hb hby own_d1_1) rfl (by rw [hc1_5]; decide) (o := 119) (by rw [hc1_5]; rfl) (by decide) (by decide) ?_
      show Steps p.tables e below (s₁.setTop (mkF m 120 #[.val (.int p0)] [])) t
      exact k
    obtain ⟨T6, X6, e6, st6⟩ := getS2 X0 hx hZ hown (host := "") (Or.inl (hw _ (List.mem_of_getElem? (i := 34) rfl))) Via.refl e0 S_A (g := (mkF m 120 #[.val (.int p0)] [])) rfl (hb hby own_d1_120)
    refine Owe.step (T' := T6) (g' := (mkF m 123 #[.val (.int p0)] [(.ref w_A)])) (fun t k => ?_) ?_
    · show Steps p.tables e below (s₁.setTop (mkF m 120 #[.val (.int p0)] [])) t
      refine st6 _ ?_
      show Steps p.tables e below (T6.setTop (mkF m 123 #[.val (.int p0)] [(.ref w_A)])) t
      exact k
    rw [show own_f1_0 p0 w_AAA w_AA_PLUS w_AA w_AA_MINUS w_A_PLUS w_A w_A_MINUS w_BBB_PLUS w_BBB w_BBB_MINUS w_BB_PLUS w_BB w_BB_MINUS w_B_PLUS w_B w_B_MINUS w_CCC_PLUS w_CCC w_CCC_MINUS w_CC w_C w_D = w_A from (by rw [own_f1_0, if_neg hc1_0, if_neg hc1_1, if_neg hc1_2, if_neg hc1_3, if_neg hc1_4, if_pos hc1_5])]
    refine Owe.ret X6 Bd.notSynchronized (v := (some (.ref w_A))) (fun h => by rw [Bd.returns] at h; cases h) (fun fs hr => ?_) ⟨rfl, N0, e6⟩ (by decide) (by decide)
    show Steps p.tables e below (T6.setTop (mkF m 123 #[.val (.int p0)] [(.ref w_A)])) _
    exact retA X6 hx Bd.returns rfl rfl (hb hby own_d1_123) hr
  by_cases hc1_6 : p0 = (6 : Int32)
  · refine Owe.step (T' := s₁) (g' := (mkF m 124 #[.val (.int p0)] [])) (fun t k => ?_) ?_
    · show Steps p.tables e below (s₁.setTop (mkF m 1 #[.val (.int p0)] [(.int p0)])) t
      refine XS.tswIn X0.here hx rfl (pc0 := 1) (pc' := 124) rfl (hb hby own_d1_1) rfl (by rw [hc1_6]; decide) (o := 123) (by rw [hc1_6]; rfl) (by decide) (by decide) ?_
      show Steps p.tables e below (s₁.setTop (mkF m 124 #[.val (.int p0)] [])) t
      exact k
    obtain ⟨T7, X7, e7, st7⟩ := getS2 X0 hx hZ hown (host := "") (Or.inl (hw _ (List.mem_of_getElem? (i := 38) rfl))) Via.refl e0 S_A_MINUS (g := (mkF m 124 #[.val (.int p0)] [])) rfl (hb hby own_d1_124)
    refine Owe.step (T' := T7) (g' := (mkF m 127 #[.val (.int p0)] [(.ref w_A_MINUS)])) (fun t k => ?_) ?_
    · show Steps p.tables e below (s₁.setTop (mkF m 124 #[.val (.int p0)] [])) t
      refine st7 _ ?_
      show Steps p.tables e below (T7.setTop (mkF m 127 #[.val (.int p0)] [(.ref w_A_MINUS)])) t
      exact k
    rw [show own_f1_0 p0 w_AAA w_AA_PLUS w_AA w_AA_MINUS w_A_PLUS w_A w_A_MINUS w_BBB_PLUS w_BBB w_BBB_MINUS w_BB_PLUS w_BB w_BB_MINUS w_B_PLUS w_B w_B_MINUS w_CCC_PLUS w_CCC w_CCC_MINUS w_CC w_C w_D = w_A_MINUS from (by rw [own_f1_0, if_neg hc1_0, if_neg hc1_1, if_neg hc1_2, if_neg hc1_3, if_neg hc1_4, if_neg hc1_5, if_pos hc1_6])]
    refine Owe.ret X7 Bd.notSynchronized (v := (some (.ref w_A_MINUS))) (fun h => by rw [Bd.returns] at h; cases h) (fun fs hr => ?_) ⟨rfl, N0, e7⟩ (by decide) (by decide)
    show Steps p.tables e below (T7.setTop (mkF m 127 #[.val (.int p0)] [(.ref w_A_MINUS)])) _
    exact retA X7 hx Bd.returns rfl rfl (hb hby own_d1_127) hr
  by_cases hc1_7 : p0 = (7 : Int32)
  · refine Owe.step (T' := s₁) (g' := (mkF m 128 #[.val (.int p0)] [])) (fun t k => ?_) ?_
    · show Steps p.tables e below (s₁.setTop (mkF m 1 #[.val (.int p0)] [(.int p0)])) t
      refine XS.tswIn X0.here hx rfl (pc0 := 1) (pc' := 128) rfl (hb hby own_d1_1) rfl (by rw [hc1_7]; decide) (o := 127) (by rw [hc1_7]; rfl) (by decide) (by decide) ?_
      show Steps p.tables e below (s₁.setTop (mkF m 128 #[.val (.int p0)] [])) t
      exact k
    obtain ⟨T8, X8, e8, st8⟩ := getS2 X0 hx hZ hown (host := "") (Or.inl (hw _ (List.mem_of_getElem? (i := 52) rfl))) Via.refl e0 S_BBB_PLUS (g := (mkF m 128 #[.val (.int p0)] [])) rfl (hb hby own_d1_128)
    refine Owe.step (T' := T8) (g' := (mkF m 131 #[.val (.int p0)] [(.ref w_BBB_PLUS)])) (fun t k => ?_) ?_
    · show Steps p.tables e below (s₁.setTop (mkF m 128 #[.val (.int p0)] [])) t
      refine st8 _ ?_
      show Steps p.tables e below (T8.setTop (mkF m 131 #[.val (.int p0)] [(.ref w_BBB_PLUS)])) t
      exact k
    rw [show own_f1_0 p0 w_AAA w_AA_PLUS w_AA w_AA_MINUS w_A_PLUS w_A w_A_MINUS w_BBB_PLUS w_BBB w_BBB_MINUS w_BB_PLUS w_BB w_BB_MINUS w_B_PLUS w_B w_B_MINUS w_CCC_PLUS w_CCC w_CCC_MINUS w_CC w_C w_D = w_BBB_PLUS from (by rw [own_f1_0, if_neg hc1_0, if_neg hc1_1, if_neg hc1_2, if_neg hc1_3, if_neg hc1_4, if_neg hc1_5, if_neg hc1_6, if_pos hc1_7])]
    refine Owe.ret X8 Bd.notSynchronized (v := (some (.ref w_BBB_PLUS))) (fun h => by rw [Bd.returns] at h; cases h) (fun fs hr => ?_) ⟨rfl, N0, e8⟩ (by decide) (by decide)
    show Steps p.tables e below (T8.setTop (mkF m 131 #[.val (.int p0)] [(.ref w_BBB_PLUS)])) _
    exact retA X8 hx Bd.returns rfl rfl (hb hby own_d1_131) hr
  by_cases hc1_8 : p0 = (8 : Int32)
  · refine Owe.step (T' := s₁) (g' := (mkF m 132 #[.val (.int p0)] [])) (fun t k => ?_) ?_
    · show Steps p.tables e below (s₁.setTop (mkF m 1 #[.val (.int p0)] [(.int p0)])) t
      refine XS.tswIn X0.here hx rfl (pc0 := 1) (pc' := 132) rfl (hb hby own_d1_1) rfl (by rw [hc1_8]; decide) (o := 131) (by rw [hc1_8]; rfl) (by decide) (by decide) ?_
      show Steps p.tables e below (s₁.setTop (mkF m 132 #[.val (.int p0)] [])) t
      exact k
    obtain ⟨T9, X9, e9, st9⟩ := getS2 X0 hx hZ hown (host := "") (Or.inl (hw _ (List.mem_of_getElem? (i := 40) rfl))) Via.refl e0 S_BBB (g := (mkF m 132 #[.val (.int p0)] [])) rfl (hb hby own_d1_132)
    refine Owe.step (T' := T9) (g' := (mkF m 135 #[.val (.int p0)] [(.ref w_BBB)])) (fun t k => ?_) ?_
    · show Steps p.tables e below (s₁.setTop (mkF m 132 #[.val (.int p0)] [])) t
      refine st9 _ ?_
      show Steps p.tables e below (T9.setTop (mkF m 135 #[.val (.int p0)] [(.ref w_BBB)])) t
      exact k
    rw [show own_f1_0 p0 w_AAA w_AA_PLUS w_AA w_AA_MINUS w_A_PLUS w_A w_A_MINUS w_BBB_PLUS w_BBB w_BBB_MINUS w_BB_PLUS w_BB w_BB_MINUS w_B_PLUS w_B w_B_MINUS w_CCC_PLUS w_CCC w_CCC_MINUS w_CC w_C w_D = w_BBB from (by rw [own_f1_0, if_neg hc1_0, if_neg hc1_1, if_neg hc1_2, if_neg hc1_3, if_neg hc1_4, if_neg hc1_5, if_neg hc1_6, if_neg hc1_7, if_pos hc1_8])]
    refine Owe.ret X9 Bd.notSynchronized (v := (some (.ref w_BBB))) (fun h => by rw [Bd.returns] at h; cases h) (fun fs hr => ?_) ⟨rfl, N0, e9⟩ (by decide) (by decide)
    show Steps p.tables e below (T9.setTop (mkF m 135 #[.val (.int p0)] [(.ref w_BBB)])) _
    exact retA X9 hx Bd.returns rfl rfl (hb hby own_d1_135) hr
  by_cases hc1_9 : p0 = (9 : Int32)
  · refine Owe.step (T' := s₁) (g' := (mkF m 136 #[.val (.int p0)] [])) (fun t k => ?_) ?_
    · show Steps p.tables e below (s₁.setTop (mkF m 1 #[.val (.int p0)] [(.int p0)])) t
      refine XS.tswIn X0.here hx rfl (pc0 := 1) (pc' := 136) rfl (hb hby own_d1_1) rfl (by rw [hc1_9]; decide) (o := 135) (by rw [hc1_9]; rfl) (by decide) (by decide) ?_
      show Steps p.tables e below (s₁.setTop (mkF m 136 #[.val (.int p0)] [])) t
      exact k
    obtain ⟨T10, X10, e10, st10⟩ := getS2 X0 hx hZ hown (host := "") (Or.inl (hw _ (List.mem_of_getElem? (i := 44) rfl))) Via.refl e0 S_BBB_MINUS (g := (mkF m 136 #[.val (.int p0)] [])) rfl (hb hby own_d1_136)
    refine Owe.step (T' := T10) (g' := (mkF m 139 #[.val (.int p0)] [(.ref w_BBB_MINUS)])) (fun t k => ?_) ?_
    · show Steps p.tables e below (s₁.setTop (mkF m 136 #[.val (.int p0)] [])) t
      refine st10 _ ?_
      show Steps p.tables e below (T10.setTop (mkF m 139 #[.val (.int p0)] [(.ref w_BBB_MINUS)])) t
      exact k
    rw [show own_f1_0 p0 w_AAA w_AA_PLUS w_AA w_AA_MINUS w_A_PLUS w_A w_A_MINUS w_BBB_PLUS w_BBB w_BBB_MINUS w_BB_PLUS w_BB w_BB_MINUS w_B_PLUS w_B w_B_MINUS w_CCC_PLUS w_CCC w_CCC_MINUS w_CC w_C w_D = w_BBB_MINUS from (by rw [own_f1_0, if_neg hc1_0, if_neg hc1_1, if_neg hc1_2, if_neg hc1_3, if_neg hc1_4, if_neg hc1_5, if_neg hc1_6, if_neg hc1_7, if_neg hc1_8, if_pos hc1_9])]
    refine Owe.ret X10 Bd.notSynchronized (v := (some (.ref w_BBB_MINUS))) (fun h => by rw [Bd.returns] at h; cases h) (fun fs hr => ?_) ⟨rfl, N0, e10⟩ (by decide) (by decide)
    show Steps p.tables e below (T10.setTop (mkF m 139 #[.val (.int p0)] [(.ref w_BBB_MINUS)])) _
    exact retA X10 hx Bd.returns rfl rfl (hb hby own_d1_139) hr
  by_cases hc1_10 : p0 = (10 : Int32)
  · refine Owe.step (T' := s₁) (g' := (mkF m 140 #[.val (.int p0)] [])) (fun t k => ?_) ?_
    · show Steps p.tables e below (s₁.setTop (mkF m 1 #[.val (.int p0)] [(.int p0)])) t
      refine XS.tswIn X0.here hx rfl (pc0 := 1) (pc' := 140) rfl (hb hby own_d1_1) rfl (by rw [hc1_10]; decide) (o := 139) (by rw [hc1_10]; rfl) (by decide) (by decide) ?_
      show Steps p.tables e below (s₁.setTop (mkF m 140 #[.val (.int p0)] [])) t
      exact k
    obtain ⟨T11, X11, e11, st11⟩ := getS2 X0 hx hZ hown (host := "") (Or.inl (hw _ (List.mem_of_getElem? (i := 32) rfl))) Via.refl e0 S_BB_PLUS (g := (mkF m 140 #[.val (.int p0)] [])) rfl (hb hby own_d1_140)
    refine Owe.step (T' := T11) (g' := (mkF m 143 #[.val (.int p0)] [(.ref w_BB_PLUS)])) (fun t k => ?_) ?_
    · show Steps p.tables e below (s₁.setTop (mkF m 140 #[.val (.int p0)] [])) t
      refine st11 _ ?_
      show Steps p.tables e below (T11.setTop (mkF m 143 #[.val (.int p0)] [(.ref w_BB_PLUS)])) t
      exact k
    rw [show own_f1_0 p0 w_AAA w_AA_PLUS w_AA w_AA_MINUS w_A_PLUS w_A w_A_MINUS w_BBB_PLUS w_BBB w_BBB_MINUS w_BB_PLUS w_BB w_BB_MINUS w_B_PLUS w_B w_B_MINUS w_CCC_PLUS w_CCC w_CCC_MINUS w_CC w_C w_D = w_BB_PLUS from (by rw [own_f1_0, if_neg hc1_0, if_neg hc1_1, if_neg hc1_2, if_neg hc1_3, if_neg hc1_4, if_neg hc1_5, if_neg hc1_6, if_neg hc1_7, if_neg hc1_8, if_neg hc1_9, if_pos hc1_10])]
    refine Owe.ret X11 Bd.notSynchronized (v := (some (.ref w_BB_PLUS))) (fun h => by rw [Bd.returns] at h; cases h) (fun fs hr => ?_) ⟨rfl, N0, e11⟩ (by decide) (by decide)
    show Steps p.tables e below (T11.setTop (mkF m 143 #[.val (.int p0)] [(.ref w_BB_PLUS)])) _
    exact retA X11 hx Bd.returns rfl rfl (hb hby own_d1_143) hr
  by_cases hc1_11 : p0 = (11 : Int32)
  · refine Owe.step (T' := s₁) (g' := (mkF m 144 #[.val (.int p0)] [])) (fun t k => ?_) ?_
    · show Steps p.tables e below (s₁.setTop (mkF m 1 #[.val (.int p0)] [(.int p0)])) t
      refine XS.tswIn X0.here hx rfl (pc0 := 1) (pc' := 144) rfl (hb hby own_d1_1) rfl (by rw [hc1_11]; decide) (o := 143) (by rw [hc1_11]; rfl) (by decide) (by decide) ?_
      show Steps p.tables e below (s₁.setTop (mkF m 144 #[.val (.int p0)] [])) t
      exact k
    obtain ⟨T12, X12, e12, st12⟩ := getS2 X0 hx hZ hown (host := "") (Or.inl (hw _ (List.mem_of_getElem? (i := 46) rfl))) Via.refl e0 S_BB (g := (mkF m 144 #[.val (.int p0)] [])) rfl (hb hby own_d1_144)
    refine Owe.step (T' := T12) (g' := (mkF m 147 #[.val (.int p0)] [(.ref w_BB)])) (fun t k => ?_) ?_
    · show Steps p.tables e below (s₁.setTop (mkF m 144 #[.val (.int p0)] [])) t
      refine st12 _ ?_
      show Steps p.tables e below (T12.setTop (mkF m 147 #[.val (.int p0)] [(.ref w_BB)])) t
      exact k
    rw [show own_f1_0 p0 w_AAA w_AA_PLUS w_AA w_AA_MINUS w_A_PLUS w_A w_A_MINUS w_BBB_PLUS w_BBB w_BBB_MINUS w_BB_PLUS w_BB w_BB_MINUS w_B_PLUS w_B w_B_MINUS w_CCC_PLUS w_CCC w_CCC_MINUS w_CC w_C w_D = w_BB from (by rw [own_f1_0, if_neg hc1_0, if_neg hc1_1, if_neg hc1_2, if_neg hc1_3, if_neg hc1_4, if_neg hc1_5, if_neg hc1_6, if_neg hc1_7, if_neg hc1_8, if_neg hc1_9, if_neg hc1_10, if_pos hc1_11])]
    refine Owe.ret X12 Bd.notSynchronized (v := (some (.ref w_BB))) (fun h => by rw [Bd.returns] at h; cases h) (fun fs hr => ?_) ⟨rfl, N0, e12⟩ (by decide) (by decide)
    show Steps p.tables e below (T12.setTop (mkF m 147 #[.val (.int p0)] [(.ref w_BB)])) _
    exact retA X12 hx Bd.returns rfl rfl (hb hby own_d1_147) hr
  by_cases hc1_12 : p0 = (12 : Int32)
  · refine Owe.step (T' := s₁) (g' := (mkF m 148 #[.val (.int p0)] [])) (fun t k => ?_) ?_
    · show Steps p.tables e below (s₁.setTop (mkF m 1 #[.val (.int p0)] [(.int p0)])) t
      refine XS.tswIn X0.here hx rfl (pc0 := 1) (pc' := 148) rfl (hb hby own_d1_1) rfl (by rw [hc1_12]; decide) (o := 147) (by rw [hc1_12]; rfl) (by decide) (by decide) ?_
      show Steps p.tables e below (s₁.setTop (mkF m 148 #[.val (.int p0)] [])) t
      exact k
    obtain ⟨T13, X13, e13, st13⟩ := getS2 X0 hx hZ hown (host := "") (Or.inl (hw _ (List.mem_of_getElem? (i := 42) rfl))) Via.refl e0 S_BB_MINUS (g := (mkF m 148 #[.val (.int p0)] [])) rfl (hb hby own_d1_148)
    refine Owe.step (T' := T13) (g' := (mkF m 151 #[.val (.int p0)] [(.ref w_BB_MINUS)])) (fun t k => ?_) ?_
    · show Steps p.tables e below (s₁.setTop (mkF m 148 #[.val (.int p0)] [])) t
      refine st13 _ ?_
      show Steps p.tables e below (T13.setTop (mkF m 151 #[.val (.int p0)] [(.ref w_BB_MINUS)])) t
      exact k
    rw [show own_f1_0 p0 w_AAA w_AA_PLUS w_AA w_AA_MINUS w_A_PLUS w_A w_A_MINUS w_BBB_PLUS w_BBB w_BBB_MINUS w_BB_PLUS w_BB w_BB_MINUS w_B_PLUS w_B w_B_MINUS w_CCC_PLUS w_CCC w_CCC_MINUS w_CC w_C w_D = w_BB_MINUS from (by rw [own_f1_0, if_neg hc1_0, if_neg hc1_1, if_neg hc1_2, if_neg hc1_3, if_neg hc1_4, if_neg hc1_5, if_neg hc1_6, if_neg hc1_7, if_neg hc1_8, if_neg hc1_9, if_neg hc1_10, if_neg hc1_11, if_pos hc1_12])]
    refine Owe.ret X13 Bd.notSynchronized (v := (some (.ref w_BB_MINUS))) (fun h => by rw [Bd.returns] at h; cases h) (fun fs hr => ?_) ⟨rfl, N0, e13⟩ (by decide) (by decide)
    show Steps p.tables e below (T13.setTop (mkF m 151 #[.val (.int p0)] [(.ref w_BB_MINUS)])) _
    exact retA X13 hx Bd.returns rfl rfl (hb hby own_d1_151) hr
  by_cases hc1_13 : p0 = (13 : Int32)
  · refine Owe.step (T' := s₁) (g' := (mkF m 152 #[.val (.int p0)] [])) (fun t k => ?_) ?_
    · show Steps p.tables e below (s₁.setTop (mkF m 1 #[.val (.int p0)] [(.int p0)])) t
      refine XS.tswIn X0.here hx rfl (pc0 := 1) (pc' := 152) rfl (hb hby own_d1_1) rfl (by rw [hc1_13]; decide) (o := 151) (by rw [hc1_13]; rfl) (by decide) (by decide) ?_
      show Steps p.tables e below (s₁.setTop (mkF m 152 #[.val (.int p0)] [])) t
      exact k
    obtain ⟨T14, X14, e14, st14⟩ := getS2 X0 hx hZ hown (host := "") (Or.inl (hw _ (List.mem_of_getElem? (i := 36) rfl))) Via.refl e0 S_B_PLUS (g := (mkF m 152 #[.val (.int p0)] [])) rfl (hb hby own_d1_152)
    refine Owe.step (T' := T14) (g' := (mkF m 155 #[.val (.int p0)] [(.ref w_B_PLUS)])) (fun t k => ?_) ?_
    · show Steps p.tables e below (s₁.setTop (mkF m 152 #[.val (.int p0)] [])) t
      refine st14 _ ?_
      show Steps p.tables e below (T14.setTop (mkF m 155 #[.val (.int p0)] [(.ref w_B_PLUS)])) t
      exact k
    rw [show own_f1_0 p0 w_AAA w_AA_PLUS w_AA w_AA_MINUS w_A_PLUS w_A w_A_MINUS w_BBB_PLUS w_BBB w_BBB_MINUS w_BB_PLUS w_BB w_BB_MINUS w_B_PLUS w_B w_B_MINUS w_CCC_PLUS w_CCC w_CCC_MINUS w_CC w_C w_D = w_B_PLUS from (by rw [own_f1_0, if_neg hc1_0, if_neg hc1_1, if_neg hc1_2, if_neg hc1_3, if_neg hc1_4, if_neg hc1_5, if_neg hc1_6, if_neg hc1_7, if_neg hc1_8, if_neg hc1_9, if_neg hc1_10, if_neg hc1_11, if_neg hc1_12, if_pos hc1_13])]
    refine Owe.ret X14 Bd.notSynchronized (v := (some (.ref w_B_PLUS))) (fun h => by rw [Bd.returns] at h; cases h) (fun fs hr => ?_) ⟨rfl, N0, e14⟩ (by decide) (by decide)
    show Steps p.tables e below (T14.setTop (mkF m 155 #[.val (.int p0)] [(.ref w_B_PLUS)])) _
    exact retA X14 hx Bd.returns rfl rfl (hb hby own_d1_155) hr
  by_cases hc1_14 : p0 = (14 : Int32)
  · refine Owe.step (T' := s₁) (g' := (mkF m 156 #[.val (.int p0)] [])) (fun t k => ?_) ?_
    · show Steps p.tables e below (s₁.setTop (mkF m 1 #[.val (.int p0)] [(.int p0)])) t
      refine XS.tswIn X0.here hx rfl (pc0 := 1) (pc' := 156) rfl (hb hby own_d1_1) rfl (by rw [hc1_14]; decide) (o := 155) (by rw [hc1_14]; rfl) (by decide) (by decide) ?_
      show Steps p.tables e below (s₁.setTop (mkF m 156 #[.val (.int p0)] [])) t
      exact k
    obtain ⟨T15, X15, e15, st15⟩ := getS2 X0 hx hZ hown (host := "") (Or.inl (hw _ (List.mem_of_getElem? (i := 24) rfl))) Via.refl e0 S_B (g := (mkF m 156 #[.val (.int p0)] [])) rfl (hb hby own_d1_156)
    refine Owe.step (T' := T15) (g' := (mkF m 159 #[.val (.int p0)] [(.ref w_B)])) (fun t k => ?_) ?_
    · show Steps p.tables e below (s₁.setTop (mkF m 156 #[.val (.int p0)] [])) t
      refine st15 _ ?_
      show Steps p.tables e below (T15.setTop (mkF m 159 #[.val (.int p0)] [(.ref w_B)])) t
      exact k
    rw [show own_f1_0 p0 w_AAA w_AA_PLUS w_AA w_AA_MINUS w_A_PLUS w_A w_A_MINUS w_BBB_PLUS w_BBB w_BBB_MINUS w_BB_PLUS w_BB w_BB_MINUS w_B_PLUS w_B w_B_MINUS w_CCC_PLUS w_CCC w_CCC_MINUS w_CC w_C w_D = w_B from (by rw [own_f1_0, if_neg hc1_0, if_neg hc1_1, if_neg hc1_2, if_neg hc1_3, if_neg hc1_4, if_neg hc1_5, if_neg hc1_6, if_neg hc1_7, if_neg hc1_8, if_neg hc1_9, if_neg hc1_10, if_neg hc1_11, if_neg hc1_12, if_neg hc1_13, if_pos hc1_14])]
    refine Owe.ret X15 Bd.notSynchronized (v := (some (.ref w_B))) (fun h => by rw [Bd.returns] at h; cases h) (fun fs hr => ?_) ⟨rfl, N0, e15⟩ (by decide) (by decide)
    show Steps p.tables e below (T15.setTop (mkF m 159 #[.val (.int p0)] [(.ref w_B)])) _
    exact retA X15 hx Bd.returns rfl rfl (hb hby own_d1_159) hr
  by_cases hc1_15 : p0 = (15 : Int32)
  · refine Owe.step (T' := s₁) (g' := (mkF m 160 #[.val (.int p0)] [])) (fun t k => ?_) ?_
    · show Steps p.tables e below (s₁.setTop (mkF m 1 #[.val (.int p0)] [(.int p0)])) t
      refine XS.tswIn X0.here hx rfl (pc0 := 1) (pc' := 160) rfl (hb hby own_d1_1) rfl (by rw [hc1_15]; decide) (o := 159) (by rw [hc1_15]; rfl) (by decide) (by decide) ?_
      show Steps p.tables e below (s₁.setTop (mkF m 160 #[.val (.int p0)] [])) t
      exact k
    obtain ⟨T16, X16, e16, st16⟩ := getS2 X0 hx hZ hown (host := "") (Or.inl (hw _ (List.mem_of_getElem? (i := 58) rfl))) Via.refl e0 S_B_MINUS (g := (mkF m 160 #[.val (.int p0)] [])) rfl (hb hby own_d1_160)
    refine Owe.step (T' := T16) (g' := (mkF m 163 #[.val (.int p0)] [(.ref w_B_MINUS)])) (fun t k => ?_) ?_
    · show Steps p.tables e below (s₁.setTop (mkF m 160 #[.val (.int p0)] [])) t
      refine st16 _ ?_
      show Steps p.tables e below (T16.setTop (mkF m 163 #[.val (.int p0)] [(.ref w_B_MINUS)])) t
      exact k
    rw [show own_f1_0 p0 w_AAA w_AA_PLUS w_AA w_AA_MINUS w_A_PLUS w_A w_A_MINUS w_BBB_PLUS w_BBB w_BBB_MINUS w_BB_PLUS w_BB w_BB_MINUS w_B_PLUS w_B w_B_MINUS w_CCC_PLUS w_CCC w_CCC_MINUS w_CC w_C w_D = w_B_MINUS from (by rw [own_f1_0, if_neg hc1_0, if_neg hc1_1, if_neg hc1_2, if_neg hc1_3, if_neg hc1_4, if_neg hc1_5, if_neg hc1_6, if_neg hc1_7, if_neg hc1_8, if_neg hc1_9, if_neg hc1_10, if_neg hc1_11, if_neg hc1_12, if_neg hc1_13, if_neg hc1_14, if_pos hc1_15])]
    refine Owe.ret X16 Bd.notSynchronized (v := (some (.ref w_B_MINUS))) (fun h => by rw [Bd.returns] at h; cases h) (fun fs hr => ?_) ⟨rfl, N0, e16⟩ (by decide) (by decide)
    show Steps p.tables e below (T16.setTop (mkF m 163 #[.val (.int p0)] [(.ref w_B_MINUS)])) _
    exact retA X16 hx Bd.returns rfl rfl (hb hby own_d1_163) hr
  by_cases hc1_16 : p0 = (16 : Int32)
  · refine Owe.step (T' := s₁) (g' := (mkF m 164 #[.val (.int p0)] [])) (fun t k => ?_) ?_
    · show Steps p.tables e below (s₁.setTop (mkF m 1 #[.val (.int p0)] [(.int p0)])) t
      refine XS.tswIn X0.here hx rfl (pc0 := 1) (pc' := 164) rfl (hb hby own_d1_1) rfl (by rw [hc1_16]; decide) (o := 163) (by rw [hc1_16]; rfl) (by decide) (by decide) ?_
      show Steps p.tables e below (s₁.setTop (mkF m 164 #[.val (.int p0)] [])) t
      exact k
    obtain ⟨T17, X17, e17, st17⟩ := getS2 X0 hx hZ hown (host := "") (Or.inl (hw _ (List.mem_of_getElem? (i := 54) rfl))) Via.refl e0 S_CCC_PLUS (g := (mkF m 164 #[.val (.int p0)] [])) rfl (hb hby own_d1_164)
    refine Owe.step (T' := T17) (g' := (mkF m 167 #[.val (.int p0)] [(.ref w_CCC_PLUS)])) (fun t k => ?_) ?_
    · show Steps p.tables e below (s₁.setTop (mkF m 164 #[.val (.int p0)] [])) t
      refine st17 _ ?_
      show Steps p.tables e below (T17.setTop (mkF m 167 #[.val (.int p0)] [(.ref w_CCC_PLUS)])) t
      exact k
    rw [show own_f1_0 p0 w_AAA w_AA_PLUS w_AA w_AA_MINUS w_A_PLUS w_A w_A_MINUS w_BBB_PLUS w_BBB w_BBB_MINUS w_BB_PLUS w_BB w_BB_MINUS w_B_PLUS w_B w_B_MINUS w_CCC_PLUS w_CCC w_CCC_MINUS w_CC w_C w_D = w_CCC_PLUS from (by rw [own_f1_0, if_neg hc1_0, if_neg hc1_1, if_neg hc1_2, if_neg hc1_3, if_neg hc1_4, if_neg hc1_5, if_neg hc1_6, if_neg hc1_7, if_neg hc1_8, if_neg hc1_9, if_neg hc1_10, if_neg hc1_11, if_neg hc1_12, if_neg hc1_13, if_neg hc1_14, if_neg hc1_15, if_pos hc1_16])]
    refine Owe.ret X17 Bd.notSynchronized (v := (some (.ref w_CCC_PLUS))) (fun h => by rw [Bd.returns] at h; cases h) (fun fs hr => ?_) ⟨rfl, N0, e17⟩ (by decide) (by decide)
    show Steps p.tables e below (T17.setTop (mkF m 167 #[.val (.int p0)] [(.ref w_CCC_PLUS)])) _
    exact retA X17 hx Bd.returns rfl rfl (hb hby own_d1_167) hr
  by_cases hc1_17 : p0 = (17 : Int32)
  · refine Owe.step (T' := s₁) (g' := (mkF m 168 #[.val (.int p0)] [])) (fun t k => ?_) ?_
    · show Steps p.tables e below (s₁.setTop (mkF m 1 #[.val (.int p0)] [(.int p0)])) t
      refine XS.tswIn X0.here hx rfl (pc0 := 1) (pc' := 168) rfl (hb hby own_d1_1) rfl (by rw [hc1_17]; decide) (o := 167) (by rw [hc1_17]; rfl) (by decide) (by decide) ?_
      show Steps p.tables e below (s₁.setTop (mkF m 168 #[.val (.int p0)] [])) t
      exact k
    obtain ⟨T18, X18, e18, st18⟩ := getS2 X0 hx hZ hown (host := "") (Or.inl (hw _ (List.mem_of_getElem? (i := 62) rfl))) Via.refl e0 S_CCC (g := (mkF m 168 #[.val (.int p0)] [])) rfl (hb hby own_d1_168)
    refine Owe.step (T' := T18) (g' := (mkF m 171 #[.val (.int p0)] [(.ref w_CCC)])) (fun t k => ?_) ?_
    · show Steps p.tables e below (s₁.setTop (mkF m 168 #[.val (.int p0)] [])) t
      refine st18 _ ?_
      show Steps p.tables e below (T18.setTop (mkF m 171 #[.val (.int p0)] [(.ref w_CCC)])) t
      exact k
    rw [show own_f1_0 p0 w_AAA w_AA_PLUS w_AA w_AA_MINUS w_A_PLUS w_A w_A_MINUS w_BBB_PLUS w_BBB w_BBB_MINUS w_BB_PLUS w_BB w_BB_MINUS w_B_PLUS w_B w_B_MINUS w_CCC_PLUS w_CCC w_CCC_MINUS w_CC w_C w_D = w_CCC from (by rw [own_f1_0, if_neg hc1_0, if_neg hc1_1, if_neg hc1_2, if_neg hc1_3, if_neg hc1_4, if_neg hc1_5, if_neg hc1_6, if_neg hc1_7, if_neg hc1_8, if_neg hc1_9, if_neg hc1_10, if_neg hc1_11, if_neg hc1_12, if_neg hc1_13, if_neg hc1_14, if_neg hc1_15, if_neg hc1_16, if_pos hc1_17])]
    refine Owe.ret X18 Bd.notSynchronized (v := (some (.ref w_CCC))) (fun h => by rw [Bd.returns] at h; cases h) (fun fs hr => ?_) ⟨rfl, N0, e18⟩ (by decide) (by decide)
    show Steps p.tables e below (T18.setTop (mkF m 171 #[.val (.int p0)] [(.ref w_CCC)])) _
    exact retA X18 hx Bd.returns rfl rfl (hb hby own_d1_171) hr
  by_cases hc1_18 : p0 = (18 : Int32)
  · refine Owe.step (T' := s₁) (g' := (mkF m 172 #[.val (.int p0)] [])) (fun t k => ?_) ?_
    · show Steps p.tables e below (s₁.setTop (mkF m 1 #[.val (.int p0)] [(.int p0)])) t
      refine XS.tswIn X0.here hx rfl (pc0 := 1) (pc' := 172) rfl (hb hby own_d1_1) rfl (by rw [hc1_18]; decide) (o := 171) (by rw [hc1_18]; rfl) (by decide) (by decide) ?_
      show Steps p.tables e below (s₁.setTop (mkF m 172 #[.val (.int p0)] [])) t
      exact k
    obtain ⟨T19, X19, e19, st19⟩ := getS2 X0 hx hZ hown (host := "") (Or.inl (hw _ (List.mem_of_getElem? (i := 60) rfl))) Via.refl e0 S_CCC_MINUS (g := (mkF m 172 #[.val (.int p0)] [])) rfl (hb hby own_d1_172)
    refine Owe.step (T' := T19) (g' := (mkF m 175 #[.val (.int p0)] [(.ref w_CCC_MINUS)])) (fun t k => ?_) ?_
    · show Steps p.tables e below (s₁.setTop (mkF m 172 #[.val (.int p0)] [])) t
      refine st19 _ ?_
      show Steps p.tables e below (T19.setTop (mkF m 175 #[.val (.int p0)] [(.ref w_CCC_MINUS)])) t
      exact k
    rw [show own_f1_0 p0 w_AAA w_AA_PLUS w_AA w_AA_MINUS w_A_PLUS w_A w_A_MINUS w_BBB_PLUS w_BBB w_BBB_MINUS w_BB_PLUS w_BB w_BB_MINUS w_B_PLUS w_B w_B_MINUS w_CCC_PLUS w_CCC w_CCC_MINUS w_CC w_C w_D = w_CCC_MINUS from (by rw [own_f1_0, if_neg hc1_0, if_neg hc1_1, if_neg hc1_2, if_neg hc1_3, if_neg hc1_4, if_neg hc1_5, if_neg hc1_6, if_neg hc1_7, if_neg hc1_8, if_neg hc1_9, if_neg hc1_10, if_neg hc1_11, if_neg hc1_12, if_neg hc1_13, if_neg hc1_14, if_neg hc1_15, if_neg hc1_16, if_neg hc1_17, if_pos hc1_18])]
    refine Owe.ret X19 Bd.notSynchronized (v := (some (.ref w_CCC_MINUS))) (fun h => by rw [Bd.returns] at h; cases h) (fun fs hr => ?_) ⟨rfl, N0, e19⟩ (by decide) (by decide)
    show Steps p.tables e below (T19.setTop (mkF m 175 #[.val (.int p0)] [(.ref w_CCC_MINUS)])) _
    exact retA X19 hx Bd.returns rfl rfl (hb hby own_d1_175) hr
  by_cases hc1_19 : p0 = (19 : Int32)
  · refine Owe.step (T' := s₁) (g' := (mkF m 176 #[.val (.int p0)] [])) (fun t k => ?_) ?_
    · show Steps p.tables e below (s₁.setTop (mkF m 1 #[.val (.int p0)] [(.int p0)])) t
      refine XS.tswIn X0.here hx rfl (pc0 := 1) (pc' := 176) rfl (hb hby own_d1_1) rfl (by rw [hc1_19]; decide) (o := 175) (by rw [hc1_19]; rfl) (by decide) (by decide) ?_
      show Steps p.tables e below (s₁.setTop (mkF m 176 #[.val (.int p0)] [])) t
      exact k
    obtain ⟨T20, X20, e20, st20⟩ := getS2 X0 hx hZ hown (host := "") (Or.inl (hw _ (List.mem_of_getElem? (i := 48) rfl))) Via.refl e0 S_CC (g := (mkF m 176 #[.val (.int p0)] [])) rfl (hb hby own_d1_176)
    refine Owe.step (T' := T20) (g' := (mkF m 179 #[.val (.int p0)] [(.ref w_CC)])) (fun t k => ?_) ?_
    · show Steps p.tables e below (s₁.setTop (mkF m 176 #[.val (.int p0)] [])) t
      refine st20 _ ?_
      show Steps p.tables e below (T20.setTop (mkF m 179 #[.val (.int p0)] [(.ref w_CC)])) t
      exact k
    rw [show own_f1_0 p0 w_AAA w_AA_PLUS w_AA w_AA_MINUS w_A_PLUS w_A w_A_MINUS w_BBB_PLUS w_BBB w_BBB_MINUS w_BB_PLUS w_BB w_BB_MINUS w_B_PLUS w_B w_B_MINUS w_CCC_PLUS w_CCC w_CCC_MINUS w_CC w_C w_D = w_CC from (by rw [own_f1_0, if_neg hc1_0, if_neg hc1_1, if_neg hc1_2, if_neg hc1_3, if_neg hc1_4, if_neg hc1_5, if_neg hc1_6, if_neg hc1_7, if_neg hc1_8, if_neg hc1_9, if_neg hc1_10, if_neg hc1_11, if_neg hc1_12, if_neg hc1_13, if_neg hc1_14, if_neg hc1_15, if_neg hc1_16, if_neg hc1_17, if_neg hc1_18, if_pos hc1_19])]
    refine Owe.ret X20 Bd.notSynchronized (v := (some (.ref w_CC))) (fun h => by rw [Bd.returns] at h; cases h) (fun fs hr => ?_) ⟨rfl, N0, e20⟩ (by decide) (by decide)
    show Steps p.tables e below (T20.setTop (mkF m 179 #[.val (.int p0)] [(.ref w_CC)])) _
    exact retA X20 hx Bd.returns rfl rfl (hb hby own_d1_179) hr
  by_cases hc1_20 : p0 = (20 : Int32)
  · refine Owe.step (T' := s₁) (g' := (mkF m 180 #[.val (.int p0)] [])) (fun t k => ?_) ?_
    · show Steps p.tables e below (s₁.setTop (mkF m 1 #[.val (.int p0)] [(.int p0)])) t
      refine XS.tswIn X0.here hx rfl (pc0 := 1) (pc' := 180) rfl (hb hby own_d1_1) rfl (by rw [hc1_20]; decide) (o := 179) (by rw [hc1_20]; rfl) (by decide) (by decide) ?_
      show Steps p.tables e below (s₁.setTop (mkF m 180 #[.val (.int p0)] [])) t
      exact k
    obtain ⟨T21, X21, e21, st21⟩ := getS2 X0 hx hZ hown (host := "") (Or.inl (hw _ (List.mem_of_getElem? (i := 28) rfl))) Via.refl e0 S_C (g := (mkF m 180 #[.val (.int p0)] [])) rfl (hb hby own_d1_180)
    refine Owe.step (T' := T21) (g' := (mkF m 183 #[.val (.int p0)] [(.ref w_C)])) (fun t k => ?_) ?_
    · show Steps p.tables e below (s₁.setTop (mkF m 180 #[.val (.int p0)] [])) t
      refine st21 _ ?_
      show Steps p.tables e below (T21.setTop (mkF m 183 #[.val (.int p0)] [(.ref w_C)])) t
      exact k
    rw [show own_f1_0 p0 w_AAA w_AA_PLUS w_AA w_AA_MINUS w_A_PLUS w_A w_A_MINUS w_BBB_PLUS w_BBB w_BBB_MINUS w_BB_PLUS w_BB w_BB_MINUS w_B_PLUS w_B w_B_MINUS w_CCC_PLUS w_CCC w_CCC_MINUS w_CC w_C w_D = w_C from (by rw [own_f1_0, if_neg hc1_0, if_neg hc1_1, if_neg hc1_2, if_neg hc1_3, if_neg hc1_4, if_neg hc1_5, if_neg hc1_6, if_neg hc1_7, if_neg hc1_8, if_neg hc1_9, if_neg hc1_10, if_neg hc1_11, if_neg hc1_12, if_neg hc1_13, if_neg hc1_14, if_neg hc1_15, if_neg hc1_16, if_neg hc1_17, if_neg hc1_18, if_neg hc1_19, if_pos hc1_20])]
    refine Owe.ret X21 Bd.notSynchronized (v := (some (.ref w_C))) (fun h => by rw [Bd.returns] at h; cases h) (fun fs hr => ?_) ⟨rfl, N0, e21⟩ (by decide) (by decide)
    show Steps p.tables e below (T21.setTop (mkF m 183 #[.val (.int p0)] [(.ref w_C)])) _
    exact retA X21 hx Bd.returns rfl rfl (hb hby own_d1_183) hr
  have hout1 : (p0).toInt < 0 ∨ (p0).toInt > 20 := by
    simp only [← Int32.toInt_inj, Int32.reduceToInt] at hc1_0 hc1_1 hc1_2 hc1_3 hc1_4 hc1_5 hc1_6 hc1_7 hc1_8 hc1_9 hc1_10 hc1_11 hc1_12 hc1_13 hc1_14 hc1_15 hc1_16 hc1_17 hc1_18 hc1_19 hc1_20
    omega
  refine Owe.step (T' := s₁) (g' := (mkF m 184 #[.val (.int p0)] [])) (fun t k => ?_) ?_
  · show Steps p.tables e below (s₁.setTop (mkF m 1 #[.val (.int p0)] [(.int p0)])) t
    refine XS.tswOut X0.here hx rfl (pc0 := 1) (pc' := 184) rfl (hb hby own_d1_1) rfl hout1 (by decide) (by decide) ?_
    show Steps p.tables e below (s₁.setTop (mkF m 184 #[.val (.int p0)] [])) t
    exact k
  obtain ⟨T22, X22, e22, st22⟩ := getS2 X0 hx hZ hown (host := "") (Or.inl (hw _ (List.mem_of_getElem? (i := 30) rfl))) Via.refl e0 S_D (g := (mkF m 184 #[.val (.int p0)] [])) rfl (hb hby own_d1_184)
  refine Owe.step (T' := T22) (g' := (mkF m 187 #[.val (.int p0)] [(.ref w_D)])) (fun t k => ?_) ?_
  · show Steps p.tables e below (s₁.setTop (mkF m 184 #[.val (.int p0)] [])) t
    refine st22 _ ?_
    show Steps p.tables e below (T22.setTop (mkF m 187 #[.val (.int p0)] [(.ref w_D)])) t
    exact k
  rw [show own_f1_0 p0 w_AAA w_AA_PLUS w_AA w_AA_MINUS w_A_PLUS w_A w_A_MINUS w_BBB_PLUS w_BBB w_BBB_MINUS w_BB_PLUS w_BB w_BB_MINUS w_B_PLUS w_B w_B_MINUS w_CCC_PLUS w_CCC w_CCC_MINUS w_CC w_C w_D = w_D from (by rw [own_f1_0, if_neg hc1_0, if_neg hc1_1, if_neg hc1_2, if_neg hc1_3, if_neg hc1_4, if_neg hc1_5, if_neg hc1_6, if_neg hc1_7, if_neg hc1_8, if_neg hc1_9, if_neg hc1_10, if_neg hc1_11, if_neg hc1_12, if_neg hc1_13, if_neg hc1_14, if_neg hc1_15, if_neg hc1_16, if_neg hc1_17, if_neg hc1_18, if_neg hc1_19, if_neg hc1_20])]
  refine Owe.ret X22 Bd.notSynchronized (v := (some (.ref w_D))) (fun h => by rw [Bd.returns] at h; cases h) (fun fs hr => ?_) ⟨rfl, N0, e22⟩ (by decide) (by decide)
  show Steps p.tables e below (T22.setTop (mkF m 187 #[.val (.int p0)] [(.ref w_D)])) _
  exact retA X22 hx Bd.returns rfl rfl (hb hby own_d1_187) hr
theorem own_fldI {args : Array Value} {Z : State} {t : Term} {a : Addr} {C n d : String} {k : Int32} (ev : t.eval args Z none [] Z = some (.ref a)) (h : (Jvm.Cond.eq (Jvm.Term.field t C n d) (Jvm.Term.int k)).value args Z none Z [] = some true) : Fld Z Z.heap a C n d (.int k) := by
  obtain ⟨x, y, h1, h2, h3, -⟩ := cmp_v (Or.inl h)
  have e2 : (Jvm.Term.int k).eval args Z none [] Z = some (.int k) := Term.int_eval k
  cases h2.symm.trans e2
  have h4 : x = .int k := by
    cases x with
    | int z => simp [Cond.value, h1, e2] at h; rw [h]
    | _ => simp [Kin, Value.isRef] at h3
  exact Fld.start (by rw [← fld_at (C := C) (n := n) (dd := d) ev, h1, h4])
def own_ST (Z : State) (h : Heap) (w_AAA w_AA_PLUS w_AA w_AA_MINUS w_A_PLUS w_A w_A_MINUS w_BBB_PLUS w_BBB w_BBB_MINUS w_BB_PLUS w_BB w_BB_MINUS w_B_PLUS w_B w_B_MINUS w_CCC_PLUS w_CCC w_CCC_MINUS w_CC w_C w_D : Addr) : Prop := Exa Z h w_AAA "com/example/swapscribe/swapscribe/trs/SAndPRating" ∧ Exa Z h w_AA_PLUS "com/example/swapscribe/swapscribe/trs/SAndPRating" ∧ Exa Z h w_AA "com/example/swapscribe/swapscribe/trs/SAndPRating" ∧ Exa Z h w_AA_MINUS "com/example/swapscribe/swapscribe/trs/SAndPRating" ∧ Exa Z h w_A_PLUS "com/example/swapscribe/swapscribe/trs/SAndPRating" ∧ Exa Z h w_A "com/example/swapscribe/swapscribe/trs/SAndPRating" ∧ Exa Z h w_A_MINUS "com/example/swapscribe/swapscribe/trs/SAndPRating" ∧ Exa Z h w_BBB_PLUS "com/example/swapscribe/swapscribe/trs/SAndPRating" ∧ Exa Z h w_BBB "com/example/swapscribe/swapscribe/trs/SAndPRating" ∧ Exa Z h w_BBB_MINUS "com/example/swapscribe/swapscribe/trs/SAndPRating" ∧ Exa Z h w_BB_PLUS "com/example/swapscribe/swapscribe/trs/SAndPRating" ∧ Exa Z h w_BB "com/example/swapscribe/swapscribe/trs/SAndPRating" ∧ Exa Z h w_BB_MINUS "com/example/swapscribe/swapscribe/trs/SAndPRating" ∧ Exa Z h w_B_PLUS "com/example/swapscribe/swapscribe/trs/SAndPRating" ∧ Exa Z h w_B "com/example/swapscribe/swapscribe/trs/SAndPRating" ∧ Exa Z h w_B_MINUS "com/example/swapscribe/swapscribe/trs/SAndPRating" ∧ Exa Z h w_CCC_PLUS "com/example/swapscribe/swapscribe/trs/SAndPRating" ∧ Exa Z h w_CCC "com/example/swapscribe/swapscribe/trs/SAndPRating" ∧ Exa Z h w_CCC_MINUS "com/example/swapscribe/swapscribe/trs/SAndPRating" ∧ Exa Z h w_CC "com/example/swapscribe/swapscribe/trs/SAndPRating" ∧ Exa Z h w_C "com/example/swapscribe/swapscribe/trs/SAndPRating" ∧ Exa Z h w_D "com/example/swapscribe/swapscribe/trs/SAndPRating" ∧ Fld Z h w_AAA "java/lang/Enum" "ordinal" "I" (.int (0 : Int32)) ∧ Fld Z h w_AA_PLUS "java/lang/Enum" "ordinal" "I" (.int (1 : Int32)) ∧ Fld Z h w_AA "java/lang/Enum" "ordinal" "I" (.int (2 : Int32)) ∧ Fld Z h w_AA_MINUS "java/lang/Enum" "ordinal" "I" (.int (3 : Int32)) ∧ Fld Z h w_A_PLUS "java/lang/Enum" "ordinal" "I" (.int (4 : Int32)) ∧ Fld Z h w_A "java/lang/Enum" "ordinal" "I" (.int (5 : Int32)) ∧ Fld Z h w_A_MINUS "java/lang/Enum" "ordinal" "I" (.int (6 : Int32)) ∧ Fld Z h w_BBB_PLUS "java/lang/Enum" "ordinal" "I" (.int (7 : Int32)) ∧ Fld Z h w_BBB "java/lang/Enum" "ordinal" "I" (.int (8 : Int32)) ∧ Fld Z h w_BBB_MINUS "java/lang/Enum" "ordinal" "I" (.int (9 : Int32)) ∧ Fld Z h w_BB_PLUS "java/lang/Enum" "ordinal" "I" (.int (10 : Int32)) ∧ Fld Z h w_BB "java/lang/Enum" "ordinal" "I" (.int (11 : Int32)) ∧ Fld Z h w_BB_MINUS "java/lang/Enum" "ordinal" "I" (.int (12 : Int32)) ∧ Fld Z h w_B_PLUS "java/lang/Enum" "ordinal" "I" (.int (13 : Int32)) ∧ Fld Z h w_B "java/lang/Enum" "ordinal" "I" (.int (14 : Int32)) ∧ Fld Z h w_B_MINUS "java/lang/Enum" "ordinal" "I" (.int (15 : Int32)) ∧ Fld Z h w_CCC_PLUS "java/lang/Enum" "ordinal" "I" (.int (16 : Int32)) ∧ Fld Z h w_CCC "java/lang/Enum" "ordinal" "I" (.int (17 : Int32)) ∧ Fld Z h w_CCC_MINUS "java/lang/Enum" "ordinal" "I" (.int (18 : Int32)) ∧ Fld Z h w_CC "java/lang/Enum" "ordinal" "I" (.int (19 : Int32)) ∧ Fld Z h w_C "java/lang/Enum" "ordinal" "I" (.int (20 : Int32)) ∧ Fld Z h w_D "java/lang/Enum" "ordinal" "I" (.int (21 : Int32))
def own_od (i : Int32) : Int32 := if i = (0 : Int32) then 0 else if i = (1 : Int32) then 1 else if i = (2 : Int32) then 2 else if i = (3 : Int32) then 3 else if i = (4 : Int32) then 4 else if i = (5 : Int32) then 5 else if i = (6 : Int32) then 6 else if i = (7 : Int32) then 7 else if i = (8 : Int32) then 8 else if i = (9 : Int32) then 9 else if i = (10 : Int32) then 10 else if i = (11 : Int32) then 11 else if i = (12 : Int32) then 12 else if i = (13 : Int32) then 13 else if i = (14 : Int32) then 14 else if i = (15 : Int32) then 15 else if i = (16 : Int32) then 16 else if i = (17 : Int32) then 17 else if i = (18 : Int32) then 18 else if i = (19 : Int32) then 19 else if i = (20 : Int32) then 20 else 21
theorem own_exa {Z : State} {h : Heap} {w_AAA w_AA_PLUS w_AA w_AA_MINUS w_A_PLUS w_A w_A_MINUS w_BBB_PLUS w_BBB w_BBB_MINUS w_BB_PLUS w_BB w_BB_MINUS w_B_PLUS w_B w_B_MINUS w_CCC_PLUS w_CCC w_CCC_MINUS w_CC w_C w_D : Addr} (H : own_ST Z h w_AAA w_AA_PLUS w_AA w_AA_MINUS w_A_PLUS w_A w_A_MINUS w_BBB_PLUS w_BBB w_BBB_MINUS w_BB_PLUS w_BB w_BB_MINUS w_B_PLUS w_B w_B_MINUS w_CCC_PLUS w_CCC w_CCC_MINUS w_CC w_C w_D) (i : Int32) : Exa Z h (own_f1_0 i w_AAA w_AA_PLUS w_AA w_AA_MINUS w_A_PLUS w_A w_A_MINUS w_BBB_PLUS w_BBB w_BBB_MINUS w_BB_PLUS w_BB w_BB_MINUS w_B_PLUS w_B w_B_MINUS w_CCC_PLUS w_CCC w_CCC_MINUS w_CC w_C w_D) "com/example/swapscribe/swapscribe/trs/SAndPRating" := by
  unfold own_ST at H
  unfold own_f1_0
  by_cases h0 : i = (0 : Int32)
  · rw [if_pos h0]; exact H.1
  rw [if_neg h0]
  by_cases h1 : i = (1 : Int32)
  · rw [if_pos h1]; exact H.2.1
  rw [if_neg h1]
  by_cases h2 : i = (2 : Int32)
  · rw [if_pos h2]; exact H.2.2.1
  rw [if_neg h2]
  by_cases h3 : i = (3 : Int32)
  · rw [if_pos h3]; exact H.2.2.2.1
  rw [if_neg h3]
  by_cases h4 : i = (4 : Int32)
  · rw [if_pos h4]; exact H.2.2.2.2.1
  rw [if_neg h4]
  by_cases h5 : i = (5 : Int32)
  · rw [if_pos h5]; exact H.2.2.2.2.2.1
  rw [if_neg h5]
  by_cases h6 : i = (6 : Int32)
  · rw [if_pos h6]; exact H.2.2.2.2.2.2.1
  rw [if_neg h6]
  by_cases h7 : i = (7 : Int32)
  · rw [if_pos h7]; exact H.2.2.2.2.2.2.2.1
  rw [if_neg h7]
  by_cases h8 : i = (8 : Int32)
  · rw [if_pos h8]; exact H.2.2.2.2.2.2.2.2.1
  rw [if_neg h8]
  by_cases h9 : i = (9 : Int32)
  · rw [if_pos h9]; exact H.2.2.2.2.2.2.2.2.2.1
  rw [if_neg h9]
  by_cases h10 : i = (10 : Int32)
  · rw [if_pos h10]; exact H.2.2.2.2.2.2.2.2.2.2.1
  rw [if_neg h10]
  by_cases h11 : i = (11 : Int32)
  · rw [if_pos h11]; exact H.2.2.2.2.2.2.2.2.2.2.2.1
  rw [if_neg h11]
  by_cases h12 : i = (12 : Int32)
  · rw [if_pos h12]; exact H.2.2.2.2.2.2.2.2.2.2.2.2.1
  rw [if_neg h12]
  by_cases h13 : i = (13 : Int32)
  · rw [if_pos h13]; exact H.2.2.2.2.2.2.2.2.2.2.2.2.2.1
  rw [if_neg h13]
  by_cases h14 : i = (14 : Int32)
  · rw [if_pos h14]; exact H.2.2.2.2.2.2.2.2.2.2.2.2.2.2.1
  rw [if_neg h14]
  by_cases h15 : i = (15 : Int32)
  · rw [if_pos h15]; exact H.2.2.2.2.2.2.2.2.2.2.2.2.2.2.2.1
  rw [if_neg h15]
  by_cases h16 : i = (16 : Int32)
  · rw [if_pos h16]; exact H.2.2.2.2.2.2.2.2.2.2.2.2.2.2.2.2.1
  rw [if_neg h16]
  by_cases h17 : i = (17 : Int32)
  · rw [if_pos h17]; exact H.2.2.2.2.2.2.2.2.2.2.2.2.2.2.2.2.2.1
  rw [if_neg h17]
  by_cases h18 : i = (18 : Int32)
  · rw [if_pos h18]; exact H.2.2.2.2.2.2.2.2.2.2.2.2.2.2.2.2.2.2.1
  rw [if_neg h18]
  by_cases h19 : i = (19 : Int32)
  · rw [if_pos h19]; exact H.2.2.2.2.2.2.2.2.2.2.2.2.2.2.2.2.2.2.2.1
  rw [if_neg h19]
  by_cases h20 : i = (20 : Int32)
  · rw [if_pos h20]; exact H.2.2.2.2.2.2.2.2.2.2.2.2.2.2.2.2.2.2.2.2.1
  rw [if_neg h20]
  exact H.2.2.2.2.2.2.2.2.2.2.2.2.2.2.2.2.2.2.2.2.2.1
theorem own_fld {Z : State} {h : Heap} {w_AAA w_AA_PLUS w_AA w_AA_MINUS w_A_PLUS w_A w_A_MINUS w_BBB_PLUS w_BBB w_BBB_MINUS w_BB_PLUS w_BB w_BB_MINUS w_B_PLUS w_B w_B_MINUS w_CCC_PLUS w_CCC w_CCC_MINUS w_CC w_C w_D : Addr} (H : own_ST Z h w_AAA w_AA_PLUS w_AA w_AA_MINUS w_A_PLUS w_A w_A_MINUS w_BBB_PLUS w_BBB w_BBB_MINUS w_BB_PLUS w_BB w_BB_MINUS w_B_PLUS w_B w_B_MINUS w_CCC_PLUS w_CCC w_CCC_MINUS w_CC w_C w_D) (i : Int32) : Fld Z h (own_f1_0 i w_AAA w_AA_PLUS w_AA w_AA_MINUS w_A_PLUS w_A w_A_MINUS w_BBB_PLUS w_BBB w_BBB_MINUS w_BB_PLUS w_BB w_BB_MINUS w_B_PLUS w_B w_B_MINUS w_CCC_PLUS w_CCC w_CCC_MINUS w_CC w_C w_D) "java/lang/Enum" "ordinal" "I" (.int (own_od i)) := by
  unfold own_ST at H
  unfold own_f1_0 own_od
  by_cases h0 : i = (0 : Int32)
  · rw [if_pos h0, if_pos h0]; exact H.2.2.2.2.2.2.2.2.2.2.2.2.2.2.2.2.2.2.2.2.2.2.1
  rw [if_neg h0, if_neg h0]
  by_cases h1 : i = (1 : Int32)
  · rw [if_pos h1, if_pos h1]; exact H.2.2.2.2.2.2.2.2.2.2.2.2.2.2.2.2.2.2.2.2.2.2.2.1
  rw [if_neg h1, if_neg h1]
  by_cases h2 : i = (2 : Int32)
  · rw [if_pos h2, if_pos h2]; exact H.2.2.2.2.2.2.2.2.2.2.2.2.2.2.2.2.2.2.2.2.2.2.2.2.1
  rw [if_neg h2, if_neg h2]
  by_cases h3 : i = (3 : Int32)
  · rw [if_pos h3, if_pos h3]; exact H.2.2.2.2.2.2.2.2.2.2.2.2.2.2.2.2.2.2.2.2.2.2.2.2.2.1
  rw [if_neg h3, if_neg h3]
  by_cases h4 : i = (4 : Int32)
  · rw [if_pos h4, if_pos h4]; exact H.2.2.2.2.2.2.2.2.2.2.2.2.2.2.2.2.2.2.2.2.2.2.2.2.2.2.1
  rw [if_neg h4, if_neg h4]
  by_cases h5 : i = (5 : Int32)
  · rw [if_pos h5, if_pos h5]; exact H.2.2.2.2.2.2.2.2.2.2.2.2.2.2.2.2.2.2.2.2.2.2.2.2.2.2.2.1
  rw [if_neg h5, if_neg h5]
  by_cases h6 : i = (6 : Int32)
  · rw [if_pos h6, if_pos h6]; exact H.2.2.2.2.2.2.2.2.2.2.2.2.2.2.2.2.2.2.2.2.2.2.2.2.2.2.2.2.1
  rw [if_neg h6, if_neg h6]
  by_cases h7 : i = (7 : Int32)
  · rw [if_pos h7, if_pos h7]; exact H.2.2.2.2.2.2.2.2.2.2.2.2.2.2.2.2.2.2.2.2.2.2.2.2.2.2.2.2.2.1
  rw [if_neg h7, if_neg h7]
  by_cases h8 : i = (8 : Int32)
  · rw [if_pos h8, if_pos h8]; exact H.2.2.2.2.2.2.2.2.2.2.2.2.2.2.2.2.2.2.2.2.2.2.2.2.2.2.2.2.2.2.1
  rw [if_neg h8, if_neg h8]
  by_cases h9 : i = (9 : Int32)
  · rw [if_pos h9, if_pos h9]; exact H.2.2.2.2.2.2.2.2.2.2.2.2.2.2.2.2.2.2.2.2.2.2.2.2.2.2.2.2.2.2.2.1
  rw [if_neg h9, if_neg h9]
  by_cases h10 : i = (10 : Int32)
  · rw [if_pos h10, if_pos h10]; exact H.2.2.2.2.2.2.2.2.2.2.2.2.2.2.2.2.2.2.2.2.2.2.2.2.2.2.2.2.2.2.2.2.1
  rw [if_neg h10, if_neg h10]
  by_cases h11 : i = (11 : Int32)
  · rw [if_pos h11, if_pos h11]; exact H.2.2.2.2.2.2.2.2.2.2.2.2.2.2.2.2.2.2.2.2.2.2.2.2.2.2.2.2.2.2.2.2.2.1
  rw [if_neg h11, if_neg h11]
  by_cases h12 : i = (12 : Int32)
  · rw [if_pos h12, if_pos h12]; exact H.2.2.2.2.2.2.2.2.2.2.2.2.2.2.2.2.2.2.2.2.2.2.2.2.2.2.2.2.2.2.2.2.2.2.1
  rw [if_neg h12, if_neg h12]
  by_cases h13 : i = (13 : Int32)
  · rw [if_pos h13, if_pos h13]; exact H.2.2.2.2.2.2.2.2.2.2.2.2.2.2.2.2.2.2.2.2.2.2.2.2.2.2.2.2.2.2.2.2.2.2.2.1
  rw [if_neg h13, if_neg h13]
  by_cases h14 : i = (14 : Int32)
  · rw [if_pos h14, if_pos h14]; exact H.2.2.2.2.2.2.2.2.2.2.2.2.2.2.2.2.2.2.2.2.2.2.2.2.2.2.2.2.2.2.2.2.2.2.2.2.1
  rw [if_neg h14, if_neg h14]
  by_cases h15 : i = (15 : Int32)
  · rw [if_pos h15, if_pos h15]; exact H.2.2.2.2.2.2.2.2.2.2.2.2.2.2.2.2.2.2.2.2.2.2.2.2.2.2.2.2.2.2.2.2.2.2.2.2.2.1
  rw [if_neg h15, if_neg h15]
  by_cases h16 : i = (16 : Int32)
  · rw [if_pos h16, if_pos h16]; exact H.2.2.2.2.2.2.2.2.2.2.2.2.2.2.2.2.2.2.2.2.2.2.2.2.2.2.2.2.2.2.2.2.2.2.2.2.2.2.1
  rw [if_neg h16, if_neg h16]
  by_cases h17 : i = (17 : Int32)
  · rw [if_pos h17, if_pos h17]; exact H.2.2.2.2.2.2.2.2.2.2.2.2.2.2.2.2.2.2.2.2.2.2.2.2.2.2.2.2.2.2.2.2.2.2.2.2.2.2.2.1
  rw [if_neg h17, if_neg h17]
  by_cases h18 : i = (18 : Int32)
  · rw [if_pos h18, if_pos h18]; exact H.2.2.2.2.2.2.2.2.2.2.2.2.2.2.2.2.2.2.2.2.2.2.2.2.2.2.2.2.2.2.2.2.2.2.2.2.2.2.2.2.1
  rw [if_neg h18, if_neg h18]
  by_cases h19 : i = (19 : Int32)
  · rw [if_pos h19, if_pos h19]; exact H.2.2.2.2.2.2.2.2.2.2.2.2.2.2.2.2.2.2.2.2.2.2.2.2.2.2.2.2.2.2.2.2.2.2.2.2.2.2.2.2.2.1
  rw [if_neg h19, if_neg h19]
  by_cases h20 : i = (20 : Int32)
  · rw [if_pos h20, if_pos h20]; exact H.2.2.2.2.2.2.2.2.2.2.2.2.2.2.2.2.2.2.2.2.2.2.2.2.2.2.2.2.2.2.2.2.2.2.2.2.2.2.2.2.2.2.1
  rw [if_neg h20, if_neg h20]
  exact H.2.2.2.2.2.2.2.2.2.2.2.2.2.2.2.2.2.2.2.2.2.2.2.2.2.2.2.2.2.2.2.2.2.2.2.2.2.2.2.2.2.2.2
theorem own_d3_0 : decode jdk_37_method_2_code 0 = .ok (.aload_n 0, 1) := by decide +kernel
theorem own_d3_1 : decode jdk_37_method_2_code 1 = .ok (.getfield 7, 3) := by decide +kernel
theorem own_d3_4 : decode jdk_37_method_2_code 4 = .ok (.ireturn, 1) := by decide +kernel
theorem own_pn1 : plainName "java/lang/Enum" = true := by first | (simp [plainName, overriddenIn]; done) | decide +kernel
theorem own_ef3 (m : MethodId) (a0 : Addr) : entryFrame m #[(.ref a0)] 1 = mkF m 0 #[.val (.ref a0)] [] := by first | (simp [entryFrame, mkF, argsToLocals, Value.category]; done) | rfl
def own_f3_0 (c0 : Int32) : Int32 := c0
set_option maxRecDepth 65536 in
set_option maxHeartbeats 40000000 in
theorem own_rm3 (l : Launch) (Z : State) (aA : Array Value) (hw : ∀ d ∈ tables_1, d.before aA Z = true) (ws : List Jvm.Cond) (a0 : Addr) (c0 : Int32) (h0 : Heap) (n0 : Nat) (Z0 : n0 ≤ h0.size) (F0 : Fld Z h0 a0 "java/lang/Enum" "ordinal" "I" (.int c0)) :
    MetFree l (⟨"java/lang/Enum", "ordinal", "()I"⟩ : MethodName) (head1 (Jvm.Cond.code (⟨"java/lang/Enum", "ordinal", "()I"⟩ : MethodName) jdk_37_method_2_code 1 (some .int) :: ws) ({ frames := 0, cells := 0, slots := 0, locals := 0 } : Room)) (fun a U => a = #[(.ref a0)] ∧ Z.Warmed39 U.vm ∧ U.heap = h0) (fun _ _ _ _ _ => True) (fun _ U o U' => ∃ v L, o = .returned v ∧ (QP (.int (own_f3_0 c0)) h0 n0) v U'.heap L ∧ FrameEnd U o U' L ({ frames := 0, cells := 0, slots := 0, locals := 0 } : Room).cells ({ frames := 0, cells := 0, slots := 0, locals := 0 } : Room).slots) := by
  refine MetFree.of_bodySF (plainFor_of_name own_pn1) hisR ?_
  intro p e s m args below meth c s₁ Bd hml0 hP hK
  obtain ⟨rfl, hZ, hh⟩ := hP
  have hx := Bd.exec
  have hby := Bd.bytes
  have hml : c.maxLocals = 1 := hml0
  have hown : s.vm.findClass "java/lang/Enum" = some m.cls := findClass_of_methodNamed Bd.named
  have hnm := (name_of_methodNamed Bd.named Bd.method).1
  have X0 : Stand p l e ({ frames := 0, cells := 0, slots := 0, locals := 0 } : Room) s m #[(.ref a0)] below meth c s₁ [] 0 0 := Stand.of_body Bd
  have e0 : s₁.heap = h0 := by rw [← hh, Bd.state]; rfl
  have N0 := Fr.nil n0
  refine Owe.step (T := s₁) (T' := s₁) (g' := (mkF m 0 #[.val (.ref a0)] [])) (fun t k => castTop (own_ef3 m a0) k) ?_
  obtain ⟨T1, X1, e1, st1⟩ := getF X0 hx hZ hown (host := "") (Or.inl (hw _ (List.mem_of_getElem? (i := 22) rfl))) Via.refl e0 F0 (g := (mkF m 1 #[.val (.ref a0)] [(.ref a0)])) rfl rfl (hb hby own_d3_1)
  refine Owe.step (T' := T1) (g' := (mkF m 4 #[.val (.ref a0)] [(.int c0)])) (fun t k => ?_) ?_
  · show Steps p.tables e below (s₁.setTop (mkF m 0 #[.val (.ref a0)] [])) t
    refine XS.aloadN X0.here hx rfl (hb hby own_d3_0) rfl rfl ?_
    show Steps p.tables e below (s₁.setTop (mkF m 1 #[.val (.ref a0)] [(.ref a0)])) t
    refine st1 _ ?_
    show Steps p.tables e below (T1.setTop (mkF m 4 #[.val (.ref a0)] [(.int c0)])) t
    exact k
  rw [show own_f3_0 c0 = c0 from rfl]
  refine Owe.ret X1 Bd.notSynchronized (v := (some (.int c0))) (fun h => by rw [Bd.returns] at h; cases h) (fun fs hr => ?_) ⟨rfl, N0, e1⟩ (by decide) (by decide)
  show Steps p.tables e below (T1.setTop (mkF m 4 #[.val (.ref a0)] [(.int c0)])) _
  exact retI X1 hx Bd.returns (hb hby own_d3_4) hr
theorem own_d2_0 : decode prog_29_method_5_code 0 = .ok (.aload_n 0, 1) := by decide +kernel
theorem own_d2_1 : decode prog_29_method_5_code 1 = .ok (.invokevirtual 93, 3) := by decide +kernel
theorem own_d2_4 : decode prog_29_method_5_code 4 = .ok (.aload_n 1, 1) := by decide +kernel
theorem own_d2_5 : decode prog_29_method_5_code 5 = .ok (.invokevirtual 93, 3) := by decide +kernel
theorem own_d2_8 : decode prog_29_method_5_code 8 = .ok (.if_icmp .gt 7, 3) := by decide +kernel
theorem own_d2_11 : decode prog_29_method_5_code 11 = .ok (.iconst 1, 1) := by decide +kernel
theorem own_d2_12 : decode prog_29_method_5_code 12 = .ok (.goto 4, 3) := by decide +kernel
theorem own_d2_15 : decode prog_29_method_5_code 15 = .ok (.iconst 0, 1) := by decide +kernel
theorem own_d2_16 : decode prog_29_method_5_code 16 = .ok (.ireturn, 1) := by decide +kernel
theorem own_pd0 : parseMethodDescriptor "()I" = some ⟨[], some .int⟩ := by decide +kernel
theorem own_pn2 : plainName "com/example/swapscribe/swapscribe/trs/SAndPRating" = true := by first | (simp [plainName, overriddenIn]; done) | decide +kernel
theorem own_ef2 (m : MethodId) (a0 : Addr) (a1 : Addr) : entryFrame m #[(.ref a0), (.ref a1)] 2 = mkF m 0 #[.val (.ref a0), .val (.ref a1)] [] := by first | (simp [entryFrame, mkF, argsToLocals, Value.category]; done) | rfl
def own_f2_0 (c0 : Int32) (c1 : Int32) : Int32 := (if (own_f3_0 c1) < (own_f3_0 c0) then (0 : Int32) else (1 : Int32))
set_option maxRecDepth 65536 in
set_option maxHeartbeats 40000000 in
theorem own_rm2 (l : Launch) (Z : State) (aA : Array Value) (hw : ∀ d ∈ tables_1, d.before aA Z = true) (ws : List Jvm.Cond) (a0 : Addr) (a1 : Addr) (c0 : Int32) (c1 : Int32) (h0 : Heap) (n0 : Nat) (Z0 : n0 ≤ h0.size) (E0 : Exa Z h0 a0 "com/example/swapscribe/swapscribe/trs/SAndPRating") (E1 : Exa Z h0 a1 "com/example/swapscribe/swapscribe/trs/SAndPRating") (F0 : Fld Z h0 a0 "java/lang/Enum" "ordinal" "I" (.int c0)) (F1 : Fld Z h0 a1 "java/lang/Enum" "ordinal" "I" (.int c1)) :
    MetFree l (⟨"com/example/swapscribe/swapscribe/trs/SAndPRating", "isAtLeast", "(Lcom/example/swapscribe/swapscribe/trs/SAndPRating;)Z"⟩ : MethodName) (head1 (Jvm.Cond.code (⟨"com/example/swapscribe/swapscribe/trs/SAndPRating", "isAtLeast", "(Lcom/example/swapscribe/swapscribe/trs/SAndPRating;)Z"⟩ : MethodName) prog_29_method_5_code 2 (some .boolean) :: ws) ({ frames := 1, cells := 0, slots := 0, locals := 13 } : Room)) (fun a U => a = #[(.ref a0), (.ref a1)] ∧ Z.Warmed39 U.vm ∧ U.heap = h0) (fun _ _ _ _ _ => True) (fun _ U o U' => ∃ v L, o = .returned v ∧ (QP (.int (own_f2_0 c0 c1)) h0 n0) v U'.heap L ∧ FrameEnd U o U' L ({ frames := 1, cells := 0, slots := 0, locals := 13 } : Room).cells ({ frames := 1, cells := 0, slots := 0, locals := 13 } : Room).slots) := by
  refine MetFree.of_bodySF (plainFor_of_name own_pn2) hisR ?_
  intro p e s m args below meth c s₁ Bd hml0 hP hK
  obtain ⟨rfl, hZ, hh⟩ := hP
  have hx := Bd.exec
  have hby := Bd.bytes
  have hml : c.maxLocals = 2 := hml0
  have hown : s.vm.findClass "com/example/swapscribe/swapscribe/trs/SAndPRating" = some m.cls := findClass_of_methodNamed Bd.named
  have hnm := (name_of_methodNamed Bd.named Bd.method).1
  have X0 : Stand p l e ({ frames := 1, cells := 0, slots := 0, locals := 13 } : Room) s m #[(.ref a0), (.ref a1)] below meth c s₁ [] 0 0 := Stand.of_body Bd
  have e0 : s₁.heap = h0 := by rw [← hh, Bd.state]; rfl
  have N0 := Fr.nil n0
  refine Owe.step (T := s₁) (T' := s₁) (g' := (mkF m 0 #[.val (.ref a0), .val (.ref a1)] [])) (fun t k => castTop (own_ef2 m a0 a1) k) ?_
  obtain ⟨cq1, kq1, q1a, q1b, q1c⟩ := isOf hZ e0 E0
  obtain ⟨_, _, ⟨T1, L1, k1, n1⟩, -, X1, ⟨Lc1, hQ1, l1, y1, z1⟩, st1⟩ := X0.virtualBackUp hx (x := (⟨"com/example/swapscribe/swapscribe/trs/SAndPRating", "ordinal", "()I"⟩ : MethodName)) (y := (⟨"java/lang/Enum", "ordinal", "()I"⟩ : MethodName)) (owner := "java/lang/Enum") hown (mvT hZ (hw _ (List.mem_of_getElem? (i := 15) rfl))) (mvT hZ (hw _ (List.mem_of_getElem? (i := 16) rfl))) (mvT hZ (hw _ (List.mem_of_getElem? (i := 17) rfl))) (by decide) (mvT hZ (hw _ (List.mem_of_getElem? (i := 19) rfl))) (mvT hZ (hw _ (List.mem_of_getElem? (i := 18) rfl))) (backOf (W := 0) (own_rm3 l Z aA hw [] a0 c0 h0 n0 Z0 F0) hZ (hw _ (List.mem_of_getElem? (i := 21) rfl)) (hw _ (List.mem_of_getElem? (i := 20) rfl)) (by decide) (by decide)) q1a q1c (g := (mkF m 1 #[.val (.ref a0), .val (.ref a1)] [(.ref a0)])) rfl (by rw [hml]; rfl) (Steps.refl _) (argsL := []) (rest := []) (lenOf own_pd0 rfl) rfl (by show 2 * 0 + _ ≤ _; exact Nat.le_of_eq rfl) (hb hby own_d2_1) (fun _ _ => ⟨rfl, e0, (by decide : 0 + 0 ≤ _), (by decide : 0 + 0 ≤ _)⟩)
  dsimp only [Pt.U, Pt.locs, Pt.cells, Pt.slots] at X1 l1 y1 z1 st1 hQ1
  subst y1 z1
  obtain ⟨rfl, N1q, e1⟩ := hQ1
  have N1 : Fr n0 L1 := by rw [l1]; exact Fr.app N0 N1q
  obtain ⟨cq2, kq2, q2a, q2b, q2c⟩ := isOf hZ e1 E1
  obtain ⟨_, _, ⟨T2, L2, k2, n2⟩, -, X2, ⟨Lc2, hQ2, l2, y2, z2⟩, st2⟩ := X1.virtualBackUp hx (x := (⟨"com/example/swapscribe/swapscribe/trs/SAndPRating", "ordinal", "()I"⟩ : MethodName)) (y := (⟨"java/lang/Enum", "ordinal", "()I"⟩ : MethodName)) (owner := "java/lang/Enum") hown (mvT hZ (hw _ (List.mem_of_getElem? (i := 15) rfl))) (mvT hZ (hw _ (List.mem_of_getElem? (i := 16) rfl))) (mvT hZ (hw _ (List.mem_of_getElem? (i := 17) rfl))) (by decide) (mvT hZ (hw _ (List.mem_of_getElem? (i := 19) rfl))) (mvT hZ (hw _ (List.mem_of_getElem? (i := 18) rfl))) (backOf (W := 1) (own_rm3 l Z aA hw [] a1 c1 h0 n0 Z0 F1) hZ (hw _ (List.mem_of_getElem? (i := 21) rfl)) (hw _ (List.mem_of_getElem? (i := 20) rfl)) (by decide) (by decide)) q2a q2c (g := (mkF m 5 #[.val (.ref a0), .val (.ref a1)] [(.ref a1), (.int (own_f3_0 c0))])) rfl (by rw [hml]; rfl) (Steps.refl _) (argsL := []) (rest := [(.int (own_f3_0 c0))]) (lenOf own_pd0 rfl) rfl (by show 2 * 0 + _ ≤ _; exact Nat.le_of_eq rfl) (hb hby own_d2_5) (fun _ _ => ⟨rfl, e1, (by decide : 0 + 0 ≤ _), (by decide : 0 + 0 ≤ _)⟩)
  dsimp only [Pt.U, Pt.locs, Pt.cells, Pt.slots] at X2 l2 y2 z2 st2 hQ2
  subst y2 z2
  obtain ⟨rfl, N2q, e2⟩ := hQ2
  have N2 : Fr n0 L2 := by rw [l2]; exact Fr.app N1 N2q
  refine Owe.step (T' := T2) (g' := (mkF m 8 #[.val (.ref a0), .val (.ref a1)] [(.int (own_f3_0 c1)), (.int (own_f3_0 c0))])) (fun t k => ?_) ?_
  · show Steps p.tables e below (s₁.setTop (mkF m 0 #[.val (.ref a0), .val (.ref a1)] [])) t
    refine XS.aloadN X0.here hx rfl (hb hby own_d2_0) rfl rfl ?_
    show Steps p.tables e below (s₁.setTop (mkF m 1 #[.val (.ref a0), .val (.ref a1)] [(.ref a0)])) t
    refine st1.trans ?_
    show Steps p.tables e below (T1.setTop (mkF m 4 #[.val (.ref a0), .val (.ref a1)] [(.int (own_f3_0 c0))])) t
    refine XS.aloadN X1.here hx rfl (hb hby own_d2_4) rfl rfl ?_
    show Steps p.tables e below (T1.setTop (mkF m 5 #[.val (.ref a0), .val (.ref a1)] [(.ref a1), (.int (own_f3_0 c0))])) t
    refine st2.trans ?_
    show Steps p.tables e below (T2.setTop (mkF m 8 #[.val (.ref a0), .val (.ref a1)] [(.int (own_f3_0 c1)), (.int (own_f3_0 c0))])) t
    exact k
  by_cases hc8 : (own_f3_0 c1) < (own_f3_0 c0)
  · refine Owe.step (T' := T2) (g' := (mkF m 15 #[.val (.ref a0), .val (.ref a1)] [])) (fun t k => ?_) ?_
    · show Steps p.tables e below (T2.setTop (mkF m 8 #[.val (.ref a0), .val (.ref a1)] [(.int (own_f3_0 c1)), (.int (own_f3_0 c0))])) t
      refine XS.icmpYes X2.here hx rfl (pc0 := 8) (pc' := 15) rfl (hb hby own_d2_8) rfl (tlt hc8).2.2.1 (by decide) (by decide) ?_
      show Steps p.tables e below (T2.setTop (mkF m 15 #[.val (.ref a0), .val (.ref a1)] [])) t
      exact k
    rw [show own_f2_0 c0 c1 = (0 : Int32) from (by rw [own_f2_0, if_pos hc8])]
    refine Owe.ret X2 Bd.notSynchronized (v := (some (.int (0 : Int32)))) (fun h => by rw [Bd.returns] at h; cases h) (fun fs hr => ?_) ⟨rfl, N2, e2⟩ (by decide) (by decide)
    show Steps p.tables e below (T2.setTop (mkF m 15 #[.val (.ref a0), .val (.ref a1)] [])) _
    refine XS.iconst X2.here hx rfl (hb hby own_d2_15) ?_
    show Steps p.tables e below (T2.setTop (mkF m 16 #[.val (.ref a0), .val (.ref a1)] [(.int (0 : Int32))])) _
    exact retN X2 hx (t := .boolean) Bd.returns (by simp) (hb hby own_d2_16) hr
  · refine Owe.step (T' := T2) (g' := (mkF m 11 #[.val (.ref a0), .val (.ref a1)] [])) (fun t k => ?_) ?_
    · show Steps p.tables e below (T2.setTop (mkF m 8 #[.val (.ref a0), .val (.ref a1)] [(.int (own_f3_0 c1)), (.int (own_f3_0 c0))])) t
      refine XS.icmpNo X2.here hx rfl (hb hby own_d2_8) rfl (flt hc8).2.2.1 ?_
      show Steps p.tables e below (T2.setTop (mkF m 11 #[.val (.ref a0), .val (.ref a1)] [])) t
      exact k
    rw [show own_f2_0 c0 c1 = (1 : Int32) from (by rw [own_f2_0, if_neg hc8])]
    refine Owe.ret X2 Bd.notSynchronized (v := (some (.int (1 : Int32)))) (fun h => by rw [Bd.returns] at h; cases h) (fun fs hr => ?_) ⟨rfl, N2, e2⟩ (by decide) (by decide)
    show Steps p.tables e below (T2.setTop (mkF m 11 #[.val (.ref a0), .val (.ref a1)] [])) _
    refine XS.iconst X2.here hx rfl (hb hby own_d2_11) ?_
    show Steps p.tables e below (T2.setTop (mkF m 12 #[.val (.ref a0), .val (.ref a1)] [(.int (1 : Int32))])) _
    refine XS.goto X2.here hx rfl (pc0 := 12) (pc' := 16) rfl (hb hby own_d2_12) (by decide) (by decide) ?_
    show Steps p.tables e below (T2.setTop (mkF m 16 #[.val (.ref a0), .val (.ref a1)] [(.int (1 : Int32))])) _
    exact retN X2 hx (t := .boolean) Bd.returns (by simp) (hb hby own_d2_16) hr
theorem own_pd1 : parseMethodDescriptor "(I)Lcom/example/swapscribe/swapscribe/trs/SAndPRating;" = some ⟨[.int], some (.object "com/example/swapscribe/swapscribe/trs/SAndPRating")⟩ := by decide +kernel
theorem own_pd2 : parseMethodDescriptor "(Lcom/example/swapscribe/swapscribe/trs/SAndPRating;)Z" = some ⟨[(.object "com/example/swapscribe/swapscribe/trs/SAndPRating")], some .boolean⟩ := by decide +kernel
theorem own_ef0 (m : MethodId) (p0 : Int32) (p1 : Int32) : entryFrame m #[(.int p0), (.int p1)] maxLocals = mkF m 0 #[.val (.int p0), .val (.int p1), .unset, .unset, .unset, .unset, .unset] [] := by first | (simp [entryFrame, mkF, argsToLocals, Value.category, maxLocals]; done) | rfl
def own_f0_38 (p0 : Int32) (p1 : Int32) (t38_0 : Int32) : Int32 := (if (own_f2_0 (own_od ((p0 &&& (2147483647 : Int32)) - ((p0 &&& (2147483647 : Int32)) / (22 : Int32)) * (22 : Int32))) (own_od ((p1 &&& (2147483647 : Int32)) - ((p1 &&& (2147483647 : Int32)) / (22 : Int32)) * (22 : Int32)))) = t38_0 then (1 : Int32) else (0 : Int32))
def own_f0_0 (p0 : Int32) (p1 : Int32) : Int32 := (if ((p1 &&& (2147483647 : Int32)) - ((p1 &&& (2147483647 : Int32)) / (22 : Int32)) * (22 : Int32)) < ((p0 &&& (2147483647 : Int32)) - ((p0 &&& (2147483647 : Int32)) / (22 : Int32)) * (22 : Int32)) then (own_f0_38 p0 p1 (0 : Int32)) else (own_f0_38 p0 p1 (1 : Int32)))
theorem own_i22 (x : Int32) : 0 ≤ ((x &&& (2147483647 : Int32)) - ((x &&& (2147483647 : Int32)) / (22 : Int32)) * (22 : Int32)).toInt ∧ ((x &&& (2147483647 : Int32)) - ((x &&& (2147483647 : Int32)) / (22 : Int32)) * (22 : Int32)).toInt < 22 := by
  have h := c_mask x 2147483647 31 (by decide) (by decide)
  rw [own_irem]
  have r := c_irem (x &&& (2147483647 : Int32)) 22 22 (by decide)
  omega
theorem own_odi {i : Int32} (h : 0 ≤ i.toInt ∧ i.toInt < 22) : own_od i = i := by
  have c : i = 0 ∨ i = 1 ∨ i = 2 ∨ i = 3 ∨ i = 4 ∨ i = 5 ∨ i = 6 ∨ i = 7 ∨ i = 8 ∨ i = 9 ∨ i = 10 ∨ i = 11 ∨ i = 12 ∨ i = 13 ∨ i = 14 ∨ i = 15 ∨ i = 16 ∨ i = 17 ∨ i = 18 ∨ i = 19 ∨ i = 20 ∨ i = 21 := by
    simp only [← Int32.toInt_inj, Int32.reduceToInt]
    omega
  rcases c with rfl | rfl | rfl | rfl | rfl | rfl | rfl | rfl | rfl | rfl | rfl | rfl | rfl | rfl | rfl | rfl | rfl | rfl | rfl | rfl | rfl | rfl <;> decide
theorem own_law (p0 p1 : Int32) : own_f0_0 p0 p1 = 1 := by
  unfold own_f0_0 own_f0_38 own_f2_0 own_f3_0
  rw [own_odi (own_i22 p0), own_odi (own_i22 p1)]
  split
  · rw [if_pos rfl]
  · rw [if_pos rfl]
set_option maxRecDepth 65536 in
set_option maxHeartbeats 40000000 in
theorem own_rm0 (l : Launch) (Z : State) (aA : Array Value) (hw : ∀ d ∈ tables_1, d.before aA Z = true) (ws : List Jvm.Cond) (p0 : Int32) (p1 : Int32) (w_AAA : Addr) (w_AA_PLUS : Addr) (w_AA : Addr) (w_AA_MINUS : Addr) (w_A_PLUS : Addr) (w_A : Addr) (w_A_MINUS : Addr) (w_BBB_PLUS : Addr) (w_BBB : Addr) (w_BBB_MINUS : Addr) (w_BB_PLUS : Addr) (w_BB : Addr) (w_BB_MINUS : Addr) (w_B_PLUS : Addr) (w_B : Addr) (w_B_MINUS : Addr) (w_CCC_PLUS : Addr) (w_CCC : Addr) (w_CCC_MINUS : Addr) (w_CC : Addr) (w_C : Addr) (w_D : Addr) (h0 : Heap) (n0 : Nat) (Z0 : n0 ≤ h0.size) (S_AAA : Sta Z h0 "com/example/swapscribe/swapscribe/trs/SAndPRating" "AAA" "Lcom/example/swapscribe/swapscribe/trs/SAndPRating;" (.ref w_AAA)) (S_AA_PLUS : Sta Z h0 "com/example/swapscribe/swapscribe/trs/SAndPRating" "AA_PLUS" "Lcom/example/swapscribe/swapscribe/trs/SAndPRating;" (.ref w_AA_PLUS)) (S_AA : Sta Z h0 "com/example/swapscribe/swapscribe/trs/SAndPRating" "AA" "Lcom/example/swapscribe/swapscribe/trs/SAndPRating;" (.ref w_AA)) (S_AA_MINUS : Sta Z h0 "com/example/swapscribe/swapscribe/trs/SAndPRating" "AA_MINUS" "Lcom/example/swapscribe/swapscribe/trs/SAndPRating;" (.ref w_AA_MINUS)) (S_A_PLUS : Sta Z h0 "com/example/swapscribe/swapscribe/trs/SAndPRating" "A_PLUS" "Lcom/example/swapscribe/swapscribe/trs/SAndPRating;" (.ref w_A_PLUS)) (S_A : Sta Z h0 "com/example/swapscribe/swapscribe/trs/SAndPRating" "A" "Lcom/example/swapscribe/swapscribe/trs/SAndPRating;" (.ref w_A)) (S_A_MINUS : Sta Z h0 "com/example/swapscribe/swapscribe/trs/SAndPRating" "A_MINUS" "Lcom/example/swapscribe/swapscribe/trs/SAndPRating;" (.ref w_A_MINUS)) (S_BBB_PLUS : Sta Z h0 "com/example/swapscribe/swapscribe/trs/SAndPRating" "BBB_PLUS" "Lcom/example/swapscribe/swapscribe/trs/SAndPRating;" (.ref w_BBB_PLUS)) (S_BBB : Sta Z h0 "com/example/swapscribe/swapscribe/trs/SAndPRating" "BBB" "Lcom/example/swapscribe/swapscribe/trs/SAndPRating;" (.ref w_BBB)) (S_BBB_MINUS : Sta Z h0 "com/example/swapscribe/swapscribe/trs/SAndPRating" "BBB_MINUS" "Lcom/example/swapscribe/swapscribe/trs/SAndPRating;" (.ref w_BBB_MINUS)) (S_BB_PLUS : Sta Z h0 "com/example/swapscribe/swapscribe/trs/SAndPRating" "BB_PLUS" "Lcom/example/swapscribe/swapscribe/trs/SAndPRating;" (.ref w_BB_PLUS)) (S_BB : Sta Z h0 "com/example/swapscribe/swapscribe/trs/SAndPRating" "BB" "Lcom/example/swapscribe/swapscribe/trs/SAndPRating;" (.ref w_BB)) (S_BB_MINUS : Sta Z h0 "com/example/swapscribe/swapscribe/trs/SAndPRating" "BB_MINUS" "Lcom/example/swapscribe/swapscribe/trs/SAndPRating;" (.ref w_BB_MINUS)) (S_B_PLUS : Sta Z h0 "com/example/swapscribe/swapscribe/trs/SAndPRating" "B_PLUS" "Lcom/example/swapscribe/swapscribe/trs/SAndPRating;" (.ref w_B_PLUS)) (S_B : Sta Z h0 "com/example/swapscribe/swapscribe/trs/SAndPRating" "B" "Lcom/example/swapscribe/swapscribe/trs/SAndPRating;" (.ref w_B)) (S_B_MINUS : Sta Z h0 "com/example/swapscribe/swapscribe/trs/SAndPRating" "B_MINUS" "Lcom/example/swapscribe/swapscribe/trs/SAndPRating;" (.ref w_B_MINUS)) (S_CCC_PLUS : Sta Z h0 "com/example/swapscribe/swapscribe/trs/SAndPRating" "CCC_PLUS" "Lcom/example/swapscribe/swapscribe/trs/SAndPRating;" (.ref w_CCC_PLUS)) (S_CCC : Sta Z h0 "com/example/swapscribe/swapscribe/trs/SAndPRating" "CCC" "Lcom/example/swapscribe/swapscribe/trs/SAndPRating;" (.ref w_CCC)) (S_CCC_MINUS : Sta Z h0 "com/example/swapscribe/swapscribe/trs/SAndPRating" "CCC_MINUS" "Lcom/example/swapscribe/swapscribe/trs/SAndPRating;" (.ref w_CCC_MINUS)) (S_CC : Sta Z h0 "com/example/swapscribe/swapscribe/trs/SAndPRating" "CC" "Lcom/example/swapscribe/swapscribe/trs/SAndPRating;" (.ref w_CC)) (S_C : Sta Z h0 "com/example/swapscribe/swapscribe/trs/SAndPRating" "C" "Lcom/example/swapscribe/swapscribe/trs/SAndPRating;" (.ref w_C)) (S_D : Sta Z h0 "com/example/swapscribe/swapscribe/trs/SAndPRating" "D" "Lcom/example/swapscribe/swapscribe/trs/SAndPRating;" (.ref w_D)) (HS : own_ST Z h0 w_AAA w_AA_PLUS w_AA w_AA_MINUS w_A_PLUS w_A w_A_MINUS w_BBB_PLUS w_BBB w_BBB_MINUS w_BB_PLUS w_BB w_BB_MINUS w_B_PLUS w_B w_B_MINUS w_CCC_PLUS w_CCC w_CCC_MINUS w_CC w_C w_D) :
    MetFree l x (head1 (Jvm.Cond.code x code maxLocals ret :: ws) room_1) (fun a U => a = #[(.int p0), (.int p1)] ∧ Z.Warmed39 U.vm ∧ U.heap = h0) (fun _ _ _ _ _ => True) (fun _ U o U' => ∃ v L, o = .returned v ∧ (QL (.int ((1 : Int32))) n0) v U'.heap L ∧ FrameEnd U o U' L 0 0) := by
  refine MetFree.of_bodySF (plainFor_of_name own_pn0) hisR ?_
  intro p e s m args below meth c s₁ Bd hml0 hP hK
  obtain ⟨rfl, hZ, hh⟩ := hP
  have hx := Bd.exec
  have hby := Bd.bytes
  have hml : c.maxLocals = 7 := hml0
  have hown : s.vm.findClass "com/example/swapscribe/swapscribe/trs/SAndPRatingIsAtLeastPinLaw" = some m.cls := findClass_of_methodNamed Bd.named
  have hnm := (name_of_methodNamed Bd.named Bd.method).1
  have X0 : Stand p l e room_1 s m #[(.int p0), (.int p1)] below meth c s₁ [] 0 0 := Stand.of_body Bd
  have e0 : s₁.heap = h0 := by rw [← hh, Bd.state]; rfl
  have N0 := Fr.nil n0
  refine Owe.step (T := s₁) (T' := s₁) (g' := (mkF m 0 #[.val (.int p0), .val (.int p1), .unset, .unset, .unset, .unset, .unset] [])) (fun t k => castTop (own_ef0 m p0 p1) k) ?_
  obtain ⟨_, _, ⟨T1, L1, k1, n1⟩, -, X1, ⟨Lc1, hQ1, l1, y1, z1⟩, st1⟩ := Jvm.LawKit.callS X0 hx (y := (⟨"com/example/swapscribe/swapscribe/trs/SAndPRatingIsAtLeastPinLaw", "atRank", "(I)Lcom/example/swapscribe/swapscribe/trs/SAndPRating;"⟩ : MethodName)) hown (mvT hZ (hw _ (List.mem_of_getElem? (i := 1) rfl))) (mvT hZ (hw _ (List.mem_of_getElem? (i := 2) rfl))) (mvT hZ (hw _ (List.mem_of_getElem? (i := 3) rfl))) (mvT hZ (hw _ (List.mem_of_getElem? (i := 4) rfl))) (by decide) (backOf (W := 0) (own_rm1 l Z aA hw [] ((p0 &&& (2147483647 : Int32)) - ((p0 &&& (2147483647 : Int32)) / (22 : Int32)) * (22 : Int32)) w_AAA w_AA_PLUS w_AA w_AA_MINUS w_A_PLUS w_A w_A_MINUS w_BBB_PLUS w_BBB w_BBB_MINUS w_BB_PLUS w_BB w_BB_MINUS w_B_PLUS w_B w_B_MINUS w_CCC_PLUS w_CCC w_CCC_MINUS w_CC w_C w_D h0 n0 Z0 S_AAA S_AA_PLUS S_AA S_AA_MINUS S_A_PLUS S_A S_A_MINUS S_BBB_PLUS S_BBB S_BBB_MINUS S_BB_PLUS S_BB S_BB_MINUS S_B_PLUS S_B S_B_MINUS S_CCC_PLUS S_CCC S_CCC_MINUS S_CC S_C S_D) hZ (hw _ (List.mem_of_getElem? (i := 4) rfl)) (hw _ (List.mem_of_getElem? (i := 3) rfl)) (by decide) (by decide)) (g := (mkF m 17 #[.val (.int p0), .val (.int p1), .val (.int ((p0 &&& (2147483647 : Int32)) - ((p0 &&& (2147483647 : Int32)) / (22 : Int32)) * (22 : Int32))), .val (.int ((p1 &&& (2147483647 : Int32)) - ((p1 &&& (2147483647 : Int32)) / (22 : Int32)) * (22 : Int32))), .unset, .unset, .unset] [(.int ((p0 &&& (2147483647 : Int32)) - ((p0 &&& (2147483647 : Int32)) / (22 : Int32)) * (22 : Int32)))])) rfl (by rw [hml]; rfl) (argsL := [(.int ((p0 &&& (2147483647 : Int32)) - ((p0 &&& (2147483647 : Int32)) / (22 : Int32)) * (22 : Int32)))]) (rest := []) (lenOf own_pd1 rfl) rfl (by show 2 * 0 + _ ≤ _; exact Nat.le_of_eq rfl) (hb hby at_17) (fun _ _ => ⟨rfl, e0, (by decide : 0 + 0 ≤ _), (by decide : 0 + 0 ≤ _)⟩)
  dsimp only [Pt.U, Pt.locs, Pt.cells, Pt.slots] at X1 l1 y1 z1 st1 hQ1
  subst y1 z1
  obtain ⟨rfl, N1q, e1⟩ := hQ1
  have N1 : Fr n0 L1 := by rw [l1]; exact Fr.app N0 N1q
  obtain ⟨_, _, ⟨T2, L2, k2, n2⟩, -, X2, ⟨Lc2, hQ2, l2, y2, z2⟩, st2⟩ := Jvm.LawKit.callS X1 hx (y := (⟨"com/example/swapscribe/swapscribe/trs/SAndPRatingIsAtLeastPinLaw", "atRank", "(I)Lcom/example/swapscribe/swapscribe/trs/SAndPRating;"⟩ : MethodName)) hown (mvT hZ (hw _ (List.mem_of_getElem? (i := 1) rfl))) (mvT hZ (hw _ (List.mem_of_getElem? (i := 2) rfl))) (mvT hZ (hw _ (List.mem_of_getElem? (i := 3) rfl))) (mvT hZ (hw _ (List.mem_of_getElem? (i := 4) rfl))) (by decide) (backOf (W := 0) (own_rm1 l Z aA hw [] ((p1 &&& (2147483647 : Int32)) - ((p1 &&& (2147483647 : Int32)) / (22 : Int32)) * (22 : Int32)) w_AAA w_AA_PLUS w_AA w_AA_MINUS w_A_PLUS w_A w_A_MINUS w_BBB_PLUS w_BBB w_BBB_MINUS w_BB_PLUS w_BB w_BB_MINUS w_B_PLUS w_B w_B_MINUS w_CCC_PLUS w_CCC w_CCC_MINUS w_CC w_C w_D h0 n0 Z0 S_AAA S_AA_PLUS S_AA S_AA_MINUS S_A_PLUS S_A S_A_MINUS S_BBB_PLUS S_BBB S_BBB_MINUS S_BB_PLUS S_BB S_BB_MINUS S_B_PLUS S_B S_B_MINUS S_CCC_PLUS S_CCC S_CCC_MINUS S_CC S_C S_D) hZ (hw _ (List.mem_of_getElem? (i := 4) rfl)) (hw _ (List.mem_of_getElem? (i := 3) rfl)) (by decide) (by decide)) (g := (mkF m 23 #[.val (.int p0), .val (.int p1), .val (.int ((p0 &&& (2147483647 : Int32)) - ((p0 &&& (2147483647 : Int32)) / (22 : Int32)) * (22 : Int32))), .val (.int ((p1 &&& (2147483647 : Int32)) - ((p1 &&& (2147483647 : Int32)) / (22 : Int32)) * (22 : Int32))), .val (.ref (own_f1_0 ((p0 &&& (2147483647 : Int32)) - ((p0 &&& (2147483647 : Int32)) / (22 : Int32)) * (22 : Int32)) w_AAA w_AA_PLUS w_AA w_AA_MINUS w_A_PLUS w_A w_A_MINUS w_BBB_PLUS w_BBB w_BBB_MINUS w_BB_PLUS w_BB w_BB_MINUS w_B_PLUS w_B w_B_MINUS w_CCC_PLUS w_CCC w_CCC_MINUS w_CC w_C w_D)), .unset, .unset] [(.int ((p1 &&& (2147483647 : Int32)) - ((p1 &&& (2147483647 : Int32)) / (22 : Int32)) * (22 : Int32)))])) rfl (by rw [hml]; rfl) (argsL := [(.int ((p1 &&& (2147483647 : Int32)) - ((p1 &&& (2147483647 : Int32)) / (22 : Int32)) * (22 : Int32)))]) (rest := []) (lenOf own_pd1 rfl) rfl (by show 2 * 0 + _ ≤ _; exact Nat.le_of_eq rfl) (hb hby at_23) (fun _ _ => ⟨rfl, e1, (by decide : 0 + 0 ≤ _), (by decide : 0 + 0 ≤ _)⟩)
  dsimp only [Pt.U, Pt.locs, Pt.cells, Pt.slots] at X2 l2 y2 z2 st2 hQ2
  subst y2 z2
  obtain ⟨rfl, N2q, e2⟩ := hQ2
  have N2 : Fr n0 L2 := by rw [l2]; exact Fr.app N1 N2q
  refine Owe.step (T' := T2) (g' := (mkF m 30 #[.val (.int p0), .val (.int p1), .val (.int ((p0 &&& (2147483647 : Int32)) - ((p0 &&& (2147483647 : Int32)) / (22 : Int32)) * (22 : Int32))), .val (.int ((p1 &&& (2147483647 : Int32)) - ((p1 &&& (2147483647 : Int32)) / (22 : Int32)) * (22 : Int32))), .val (.ref (own_f1_0 ((p0 &&& (2147483647 : Int32)) - ((p0 &&& (2147483647 : Int32)) / (22 : Int32)) * (22 : Int32)) w_AAA w_AA_PLUS w_AA w_AA_MINUS w_A_PLUS w_A w_A_MINUS w_BBB_PLUS w_BBB w_BBB_MINUS w_BB_PLUS w_BB w_BB_MINUS w_B_PLUS w_B w_B_MINUS w_CCC_PLUS w_CCC w_CCC_MINUS w_CC w_C w_D)), .val (.ref (own_f1_0 ((p1 &&& (2147483647 : Int32)) - ((p1 &&& (2147483647 : Int32)) / (22 : Int32)) * (22 : Int32)) w_AAA w_AA_PLUS w_AA w_AA_MINUS w_A_PLUS w_A w_A_MINUS w_BBB_PLUS w_BBB w_BBB_MINUS w_BB_PLUS w_BB w_BB_MINUS w_B_PLUS w_B w_B_MINUS w_CCC_PLUS w_CCC w_CCC_MINUS w_CC w_C w_D)), .unset] [(.int ((p1 &&& (2147483647 : Int32)) - ((p1 &&& (2147483647 : Int32)) / (22 : Int32)) * (22 : Int32))), (.int ((p0 &&& (2147483647 : Int32)) - ((p0 &&& (2147483647 : Int32)) / (22 : Int32)) * (22 : Int32)))])) (fun t k => ?_) ?_
  · show Steps p.tables e below (s₁.setTop (mkF m 0 #[.val (.int p0), .val (.int p1), .unset, .unset, .unset, .unset, .unset] [])) t
    refine XS.iloadN X0.here hx rfl (hb hby at_0) rfl ?_
    show Steps p.tables e below (s₁.setTop (mkF m 1 #[.val (.int p0), .val (.int p1), .unset, .unset, .unset, .unset, .unset] [(.int p0)])) t
    refine X0.ldcInt hx hown (mvT hZ (hw _ (List.mem_of_getElem? (i := 0) rfl))) (g := (mkF m 1 #[.val (.int p0), .val (.int p1), .unset, .unset, .unset, .unset, .unset] [(.int p0)])) rfl (hb hby at_1) _ ?_
    show Steps p.tables e below (s₁.setTop (mkF m 3 #[.val (.int p0), .val (.int p1), .unset, .unset, .unset, .unset, .unset] [(.int (2147483647 : Int32)), (.int p0)])) t
    refine XS.iand X0.here hx rfl (hb hby at_3) rfl ?_
    show Steps p.tables e below (s₁.setTop (mkF m 4 #[.val (.int p0), .val (.int p1), .unset, .unset, .unset, .unset, .unset] [(.int (p0 &&& (2147483647 : Int32)))])) t
    refine XS.bipush X0.here hx rfl (hb hby at_4) ?_
    show Steps p.tables e below (s₁.setTop (mkF m 6 #[.val (.int p0), .val (.int p1), .unset, .unset, .unset, .unset, .unset] [(.int (22 : Int32)), (.int (p0 &&& (2147483647 : Int32)))])) t
    refine XS.irem X0.here hx rfl (hb hby at_6) rfl (by decide) ?_
    show Steps p.tables e below (s₁.setTop (mkF m 7 #[.val (.int p0), .val (.int p1), .unset, .unset, .unset, .unset, .unset] [(.int ((p0 &&& (2147483647 : Int32)) - ((p0 &&& (2147483647 : Int32)) / (22 : Int32)) * (22 : Int32)))])) t
    refine XS.istoreN X0.here hx rfl (hb hby at_7) rfl (l' := #[.val (.int p0), .val (.int p1), .val (.int ((p0 &&& (2147483647 : Int32)) - ((p0 &&& (2147483647 : Int32)) / (22 : Int32)) * (22 : Int32))), .unset, .unset, .unset, .unset]) rfl ?_
    show Steps p.tables e below (s₁.setTop (mkF m 8 #[.val (.int p0), .val (.int p1), .val (.int ((p0 &&& (2147483647 : Int32)) - ((p0 &&& (2147483647 : Int32)) / (22 : Int32)) * (22 : Int32))), .unset, .unset, .unset, .unset] [])) t
    refine XS.iloadN X0.here hx rfl (hb hby at_8) rfl ?_
    show Steps p.tables e below (s₁.setTop (mkF m 9 #[.val (.int p0), .val (.int p1), .val (.int ((p0 &&& (2147483647 : Int32)) - ((p0 &&& (2147483647 : Int32)) / (22 : Int32)) * (22 : Int32))), .unset, .unset, .unset, .unset] [(.int p1)])) t
    refine X0.ldcInt hx hown (mvT hZ (hw _ (List.mem_of_getElem? (i := 0) rfl))) (g := (mkF m 9 #[.val (.int p0), .val (.int p1), .val (.int ((p0 &&& (2147483647 : Int32)) - ((p0 &&& (2147483647 : Int32)) / (22 : Int32)) * (22 : Int32))), .unset, .unset, .unset, .unset] [(.int p1)])) rfl (hb hby at_9) _ ?_
    show Steps p.tables e below (s₁.setTop (mkF m 11 #[.val (.int p0), .val (.int p1), .val (.int ((p0 &&& (2147483647 : Int32)) - ((p0 &&& (2147483647 : Int32)) / (22 : Int32)) * (22 : Int32))), .unset, .unset, .unset, .unset] [(.int (2147483647 : Int32)), (.int p1)])) t
    refine XS.iand X0.here hx rfl (hb hby at_11) rfl ?_
    show Steps p.tables e below (s₁.setTop (mkF m 12 #[.val (.int p0), .val (.int p1), .val (.int ((p0 &&& (2147483647 : Int32)) - ((p0 &&& (2147483647 : Int32)) / (22 : Int32)) * (22 : Int32))), .unset, .unset, .unset, .unset] [(.int (p1 &&& (2147483647 : Int32)))])) t
    refine XS.bipush X0.here hx rfl (hb hby at_12) ?_
    show Steps p.tables e below (s₁.setTop (mkF m 14 #[.val (.int p0), .val (.int p1), .val (.int ((p0 &&& (2147483647 : Int32)) - ((p0 &&& (2147483647 : Int32)) / (22 : Int32)) * (22 : Int32))), .unset, .unset, .unset, .unset] [(.int (22 : Int32)), (.int (p1 &&& (2147483647 : Int32)))])) t
    refine XS.irem X0.here hx rfl (hb hby at_14) rfl (by decide) ?_
    show Steps p.tables e below (s₁.setTop (mkF m 15 #[.val (.int p0), .val (.int p1), .val (.int ((p0 &&& (2147483647 : Int32)) - ((p0 &&& (2147483647 : Int32)) / (22 : Int32)) * (22 : Int32))), .unset, .unset, .unset, .unset] [(.int ((p1 &&& (2147483647 : Int32)) - ((p1 &&& (2147483647 : Int32)) / (22 : Int32)) * (22 : Int32)))])) t
    refine XS.istoreN X0.here hx rfl (hb hby at_15) rfl (l' := #[.val (.int p0), .val (.int p1), .val (.int ((p0 &&& (2147483647 : Int32)) - ((p0 &&& (2147483647 : Int32)) / (22 : Int32)) * (22 : Int32))), .val (.int ((p1 &&& (2147483647 : Int32)) - ((p1 &&& (2147483647 : Int32)) / (22 : Int32)) * (22 : Int32))), .unset, .unset, .unset]) rfl ?_
    show Steps p.tables e below (s₁.setTop (mkF m 16 #[.val (.int p0), .val (.int p1), .val (.int ((p0 &&& (2147483647 : Int32)) - ((p0 &&& (2147483647 : Int32)) / (22 : Int32)) * (22 : Int32))), .val (.int ((p1 &&& (2147483647 : Int32)) - ((p1 &&& (2147483647 : Int32)) / (22 : Int32)) * (22 : Int32))), .unset, .unset, .unset] [])) t
    refine XS.iloadN X0.here hx rfl (hb hby at_16) rfl ?_
    show Steps p.tables e below (s₁.setTop (mkF m 17 #[.val (.int p0), .val (.int p1), .val (.int ((p0 &&& (2147483647 : Int32)) - ((p0 &&& (2147483647 : Int32)) / (22 : Int32)) * (22 : Int32))), .val (.int ((p1 &&& (2147483647 : Int32)) - ((p1 &&& (2147483647 : Int32)) / (22 : Int32)) * (22 : Int32))), .unset, .unset, .unset] [(.int ((p0 &&& (2147483647 : Int32)) - ((p0 &&& (2147483647 : Int32)) / (22 : Int32)) * (22 : Int32)))])) t
    refine st1 _ ?_
    show Steps p.tables e below (T1.setTop (mkF m 20 #[.val (.int p0), .val (.int p1), .val (.int ((p0 &&& (2147483647 : Int32)) - ((p0 &&& (2147483647 : Int32)) / (22 : Int32)) * (22 : Int32))), .val (.int ((p1 &&& (2147483647 : Int32)) - ((p1 &&& (2147483647 : Int32)) / (22 : Int32)) * (22 : Int32))), .unset, .unset, .unset] [(.ref (own_f1_0 ((p0 &&& (2147483647 : Int32)) - ((p0 &&& (2147483647 : Int32)) / (22 : Int32)) * (22 : Int32)) w_AAA w_AA_PLUS w_AA w_AA_MINUS w_A_PLUS w_A w_A_MINUS w_BBB_PLUS w_BBB w_BBB_MINUS w_BB_PLUS w_BB w_BB_MINUS w_B_PLUS w_B w_B_MINUS w_CCC_PLUS w_CCC w_CCC_MINUS w_CC w_C w_D))])) t
    refine XS.astore X1.here hx rfl (hb hby at_20) rfl rfl (l' := #[.val (.int p0), .val (.int p1), .val (.int ((p0 &&& (2147483647 : Int32)) - ((p0 &&& (2147483647 : Int32)) / (22 : Int32)) * (22 : Int32))), .val (.int ((p1 &&& (2147483647 : Int32)) - ((p1 &&& (2147483647 : Int32)) / (22 : Int32)) * (22 : Int32))), .val (.ref (own_f1_0 ((p0 &&& (2147483647 : Int32)) - ((p0 &&& (2147483647 : Int32)) / (22 : Int32)) * (22 : Int32)) w_AAA w_AA_PLUS w_AA w_AA_MINUS w_A_PLUS w_A w_A_MINUS w_BBB_PLUS w_BBB w_BBB_MINUS w_BB_PLUS w_BB w_BB_MINUS w_B_PLUS w_B w_B_MINUS w_CCC_PLUS w_CCC w_CCC_MINUS w_CC w_C w_D)), .unset, .unset]) rfl ?_
    show Steps p.tables e below (T1.setTop (mkF m 22 #[.val (.int p0), .val (.int p1), .val (.int ((p0 &&& (2147483647 : Int32)) - ((p0 &&& (2147483647 : Int32)) / (22 : Int32)) * (22 : Int32))), .val (.int ((p1 &&& (2147483647 : Int32)) - ((p1 &&& (2147483647 : Int32)) / (22 : Int32)) * (22 : Int32))), .val (.ref (own_f1_0 ((p0 &&& (2147483647 : Int32)) - ((p0 &&& (2147483647 : Int32)) / (22 : Int32)) * (22 : Int32)) w_AAA w_AA_PLUS w_AA w_AA_MINUS w_A_PLUS w_A w_A_MINUS w_BBB_PLUS w_BBB w_BBB_MINUS w_BB_PLUS w_BB w_BB_MINUS w_B_PLUS w_B w_B_MINUS w_CCC_PLUS w_CCC w_CCC_MINUS w_CC w_C w_D)), .unset, .unset] [])) t
    refine XS.iloadN X1.here hx rfl (hb hby at_22) rfl ?_
    show Steps p.tables e below (T1.setTop (mkF m 23 #[.val (.int p0), .val (.int p1), .val (.int ((p0 &&& (2147483647 : Int32)) - ((p0 &&& (2147483647 : Int32)) / (22 : Int32)) * (22 : Int32))), .val (.int ((p1 &&& (2147483647 : Int32)) - ((p1 &&& (2147483647 : Int32)) / (22 : Int32)) * (22 : Int32))), .val (.ref (own_f1_0 ((p0 &&& (2147483647 : Int32)) - ((p0 &&& (2147483647 : Int32)) / (22 : Int32)) * (22 : Int32)) w_AAA w_AA_PLUS w_AA w_AA_MINUS w_A_PLUS w_A w_A_MINUS w_BBB_PLUS w_BBB w_BBB_MINUS w_BB_PLUS w_BB w_BB_MINUS w_B_PLUS w_B w_B_MINUS w_CCC_PLUS w_CCC w_CCC_MINUS w_CC w_C w_D)), .unset, .unset] [(.int ((p1 &&& (2147483647 : Int32)) - ((p1 &&& (2147483647 : Int32)) / (22 : Int32)) * (22 : Int32)))])) t
    refine st2 _ ?_
    show Steps p.tables e below (T2.setTop (mkF m 26 #[.val (.int p0), .val (.int p1), .val (.int ((p0 &&& (2147483647 : Int32)) - ((p0 &&& (2147483647 : Int32)) / (22 : Int32)) * (22 : Int32))), .val (.int ((p1 &&& (2147483647 : Int32)) - ((p1 &&& (2147483647 : Int32)) / (22 : Int32)) * (22 : Int32))), .val (.ref (own_f1_0 ((p0 &&& (2147483647 : Int32)) - ((p0 &&& (2147483647 : Int32)) / (22 : Int32)) * (22 : Int32)) w_AAA w_AA_PLUS w_AA w_AA_MINUS w_A_PLUS w_A w_A_MINUS w_BBB_PLUS w_BBB w_BBB_MINUS w_BB_PLUS w_BB w_BB_MINUS w_B_PLUS w_B w_B_MINUS w_CCC_PLUS w_CCC w_CCC_MINUS w_CC w_C w_D)), .unset, .unset] [(.ref (own_f1_0 ((p1 &&& (2147483647 : Int32)) - ((p1 &&& (2147483647 : Int32)) / (22 : Int32)) * (22 : Int32)) w_AAA w_AA_PLUS w_AA w_AA_MINUS w_A_PLUS w_A w_A_MINUS w_BBB_PLUS w_BBB w_BBB_MINUS w_BB_PLUS w_BB w_BB_MINUS w_B_PLUS w_B w_B_MINUS w_CCC_PLUS w_CCC w_CCC_MINUS w_CC w_C w_D))])) t
    refine XS.astore X2.here hx rfl (hb hby at_26) rfl rfl (l' := #[.val (.int p0), .val (.int p1), .val (.int ((p0 &&& (2147483647 : Int32)) - ((p0 &&& (2147483647 : Int32)) / (22 : Int32)) * (22 : Int32))), .val (.int ((p1 &&& (2147483647 : Int32)) - ((p1 &&& (2147483647 : Int32)) / (22 : Int32)) * (22 : Int32))), .val (.ref (own_f1_0 ((p0 &&& (2147483647 : Int32)) - ((p0 &&& (2147483647 : Int32)) / (22 : Int32)) * (22 : Int32)) w_AAA w_AA_PLUS w_AA w_AA_MINUS w_A_PLUS w_A w_A_MINUS w_BBB_PLUS w_BBB w_BBB_MINUS w_BB_PLUS w_BB w_BB_MINUS w_B_PLUS w_B w_B_MINUS w_CCC_PLUS w_CCC w_CCC_MINUS w_CC w_C w_D)), .val (.ref (own_f1_0 ((p1 &&& (2147483647 : Int32)) - ((p1 &&& (2147483647 : Int32)) / (22 : Int32)) * (22 : Int32)) w_AAA w_AA_PLUS w_AA w_AA_MINUS w_A_PLUS w_A w_A_MINUS w_BBB_PLUS w_BBB w_BBB_MINUS w_BB_PLUS w_BB w_BB_MINUS w_B_PLUS w_B w_B_MINUS w_CCC_PLUS w_CCC w_CCC_MINUS w_CC w_C w_D)), .unset]) rfl ?_
    show Steps p.tables e below (T2.setTop (mkF m 28 #[.val (.int p0), .val (.int p1), .val (.int ((p0 &&& (2147483647 : Int32)) - ((p0 &&& (2147483647 : Int32)) / (22 : Int32)) * (22 : Int32))), .val (.int ((p1 &&& (2147483647 : Int32)) - ((p1 &&& (2147483647 : Int32)) / (22 : Int32)) * (22 : Int32))), .val (.ref (own_f1_0 ((p0 &&& (2147483647 : Int32)) - ((p0 &&& (2147483647 : Int32)) / (22 : Int32)) * (22 : Int32)) w_AAA w_AA_PLUS w_AA w_AA_MINUS w_A_PLUS w_A w_A_MINUS w_BBB_PLUS w_BBB w_BBB_MINUS w_BB_PLUS w_BB w_BB_MINUS w_B_PLUS w_B w_B_MINUS w_CCC_PLUS w_CCC w_CCC_MINUS w_CC w_C w_D)), .val (.ref (own_f1_0 ((p1 &&& (2147483647 : Int32)) - ((p1 &&& (2147483647 : Int32)) / (22 : Int32)) * (22 : Int32)) w_AAA w_AA_PLUS w_AA w_AA_MINUS w_A_PLUS w_A w_A_MINUS w_BBB_PLUS w_BBB w_BBB_MINUS w_BB_PLUS w_BB w_BB_MINUS w_B_PLUS w_B w_B_MINUS w_CCC_PLUS w_CCC w_CCC_MINUS w_CC w_C w_D)), .unset] [])) t
    refine XS.iloadN X2.here hx rfl (hb hby at_28) rfl ?_
    show Steps p.tables e below (T2.setTop (mkF m 29 #[.val (.int p0), .val (.int p1), .val (.int ((p0 &&& (2147483647 : Int32)) - ((p0 &&& (2147483647 : Int32)) / (22 : Int32)) * (22 : Int32))), .val (.int ((p1 &&& (2147483647 : Int32)) - ((p1 &&& (2147483647 : Int32)) / (22 : Int32)) * (22 : Int32))), .val (.ref (own_f1_0 ((p0 &&& (2147483647 : Int32)) - ((p0 &&& (2147483647 : Int32)) / (22 : Int32)) * (22 : Int32)) w_AAA w_AA_PLUS w_AA w_AA_MINUS w_A_PLUS w_A w_A_MINUS w_BBB_PLUS w_BBB w_BBB_MINUS w_BB_PLUS w_BB w_BB_MINUS w_B_PLUS w_B w_B_MINUS w_CCC_PLUS w_CCC w_CCC_MINUS w_CC w_C w_D)), .val (.ref (own_f1_0 ((p1 &&& (2147483647 : Int32)) - ((p1 &&& (2147483647 : Int32)) / (22 : Int32)) * (22 : Int32)) w_AAA w_AA_PLUS w_AA w_AA_MINUS w_A_PLUS w_A w_A_MINUS w_BBB_PLUS w_BBB w_BBB_MINUS w_BB_PLUS w_BB w_BB_MINUS w_B_PLUS w_B w_B_MINUS w_CCC_PLUS w_CCC w_CCC_MINUS w_CC w_C w_D)), .unset] [(.int ((p0 &&& (2147483647 : Int32)) - ((p0 &&& (2147483647 : Int32)) / (22 : Int32)) * (22 : Int32)))])) t
    refine XS.iloadN X2.here hx rfl (hb hby at_29) rfl ?_
    show Steps p.tables e below (T2.setTop (mkF m 30 #[.val (.int p0), .val (.int p1), .val (.int ((p0 &&& (2147483647 : Int32)) - ((p0 &&& (2147483647 : Int32)) / (22 : Int32)) * (22 : Int32))), .val (.int ((p1 &&& (2147483647 : Int32)) - ((p1 &&& (2147483647 : Int32)) / (22 : Int32)) * (22 : Int32))), .val (.ref (own_f1_0 ((p0 &&& (2147483647 : Int32)) - ((p0 &&& (2147483647 : Int32)) / (22 : Int32)) * (22 : Int32)) w_AAA w_AA_PLUS w_AA w_AA_MINUS w_A_PLUS w_A w_A_MINUS w_BBB_PLUS w_BBB w_BBB_MINUS w_BB_PLUS w_BB w_BB_MINUS w_B_PLUS w_B w_B_MINUS w_CCC_PLUS w_CCC w_CCC_MINUS w_CC w_C w_D)), .val (.ref (own_f1_0 ((p1 &&& (2147483647 : Int32)) - ((p1 &&& (2147483647 : Int32)) / (22 : Int32)) * (22 : Int32)) w_AAA w_AA_PLUS w_AA w_AA_MINUS w_A_PLUS w_A w_A_MINUS w_BBB_PLUS w_BBB w_BBB_MINUS w_BB_PLUS w_BB w_BB_MINUS w_B_PLUS w_B w_B_MINUS w_CCC_PLUS w_CCC w_CCC_MINUS w_CC w_C w_D)), .unset] [(.int ((p1 &&& (2147483647 : Int32)) - ((p1 &&& (2147483647 : Int32)) / (22 : Int32)) * (22 : Int32))), (.int ((p0 &&& (2147483647 : Int32)) - ((p0 &&& (2147483647 : Int32)) / (22 : Int32)) * (22 : Int32)))])) t
    exact k
  have j38 : ∀ (T : State) (Lc : List Loc) (X : Stand p l e room_1 s m #[(.int p0), (.int p1)] below meth c T Lc 0 0) (eT : T.heap = h0) (N : Fr n0 Lc) (t38_0 : Int32), Owe p e below s 0 0 (QL (.int (own_f0_38 p0 p1 t38_0)) n0) T (mkF m 38 #[.val (.int p0), .val (.int p1), .val (.int ((p0 &&& (2147483647 : Int32)) - ((p0 &&& (2147483647 : Int32)) / (22 : Int32)) * (22 : Int32))), .val (.int ((p1 &&& (2147483647 : Int32)) - ((p1 &&& (2147483647 : Int32)) / (22 : Int32)) * (22 : Int32))), .val (.ref (own_f1_0 ((p0 &&& (2147483647 : Int32)) - ((p0 &&& (2147483647 : Int32)) / (22 : Int32)) * (22 : Int32)) w_AAA w_AA_PLUS w_AA w_AA_MINUS w_A_PLUS w_A w_A_MINUS w_BBB_PLUS w_BBB w_BBB_MINUS w_BB_PLUS w_BB w_BB_MINUS w_B_PLUS w_B w_B_MINUS w_CCC_PLUS w_CCC w_CCC_MINUS w_CC w_C w_D)), .val (.ref (own_f1_0 ((p1 &&& (2147483647 : Int32)) - ((p1 &&& (2147483647 : Int32)) / (22 : Int32)) * (22 : Int32)) w_AAA w_AA_PLUS w_AA w_AA_MINUS w_A_PLUS w_A w_A_MINUS w_BBB_PLUS w_BBB w_BBB_MINUS w_BB_PLUS w_BB w_BB_MINUS w_B_PLUS w_B w_B_MINUS w_CCC_PLUS w_CCC w_CCC_MINUS w_CC w_C w_D)), .unset] [(.int t38_0)]) := by
    intro T38j Lc38j X38j e38j N38j t38_0
    obtain ⟨cq3, kq3, q3a, q3b, q3c⟩ := isOf hZ e38j (own_exa HS ((p0 &&& (2147483647 : Int32)) - ((p0 &&& (2147483647 : Int32)) / (22 : Int32)) * (22 : Int32)))
    obtain ⟨_, _, ⟨T3, L3, k3, n3⟩, -, X3, ⟨Lc3, hQ3, l3, y3, z3⟩, st3⟩ := X38j.virtualBack hx (y := (⟨"com/example/swapscribe/swapscribe/trs/SAndPRating", "isAtLeast", "(Lcom/example/swapscribe/swapscribe/trs/SAndPRating;)Z"⟩ : MethodName)) (z := (⟨"com/example/swapscribe/swapscribe/trs/SAndPRating", "isAtLeast", "(Lcom/example/swapscribe/swapscribe/trs/SAndPRating;)Z"⟩ : MethodName)) hown (mvT hZ (hw _ (List.mem_of_getElem? (i := 10) rfl))) (mvT hZ (hw _ (List.mem_of_getElem? (i := 11) rfl))) (notFace_of_selects (args := #[]) (mvT hZ (hw _ (List.mem_of_getElem? (i := 13) rfl)))) (mvT hZ (hw _ (List.mem_of_getElem? (i := 13) rfl))) (mvT hZ (hw _ (List.mem_of_getElem? (i := 12) rfl))) (by decide) (backOf (W := 0) (own_rm2 l Z aA hw [] (own_f1_0 ((p0 &&& (2147483647 : Int32)) - ((p0 &&& (2147483647 : Int32)) / (22 : Int32)) * (22 : Int32)) w_AAA w_AA_PLUS w_AA w_AA_MINUS w_A_PLUS w_A w_A_MINUS w_BBB_PLUS w_BBB w_BBB_MINUS w_BB_PLUS w_BB w_BB_MINUS w_B_PLUS w_B w_B_MINUS w_CCC_PLUS w_CCC w_CCC_MINUS w_CC w_C w_D) (own_f1_0 ((p1 &&& (2147483647 : Int32)) - ((p1 &&& (2147483647 : Int32)) / (22 : Int32)) * (22 : Int32)) w_AAA w_AA_PLUS w_AA w_AA_MINUS w_A_PLUS w_A w_A_MINUS w_BBB_PLUS w_BBB w_BBB_MINUS w_BB_PLUS w_BB w_BB_MINUS w_B_PLUS w_B w_B_MINUS w_CCC_PLUS w_CCC w_CCC_MINUS w_CC w_C w_D) (own_od ((p0 &&& (2147483647 : Int32)) - ((p0 &&& (2147483647 : Int32)) / (22 : Int32)) * (22 : Int32))) (own_od ((p1 &&& (2147483647 : Int32)) - ((p1 &&& (2147483647 : Int32)) / (22 : Int32)) * (22 : Int32))) h0 n0 Z0 (own_exa HS ((p0 &&& (2147483647 : Int32)) - ((p0 &&& (2147483647 : Int32)) / (22 : Int32)) * (22 : Int32))) (own_exa HS ((p1 &&& (2147483647 : Int32)) - ((p1 &&& (2147483647 : Int32)) / (22 : Int32)) * (22 : Int32))) (own_fld HS ((p0 &&& (2147483647 : Int32)) - ((p0 &&& (2147483647 : Int32)) / (22 : Int32)) * (22 : Int32))) (own_fld HS ((p1 &&& (2147483647 : Int32)) - ((p1 &&& (2147483647 : Int32)) / (22 : Int32)) * (22 : Int32)))) hZ (hw _ (List.mem_of_getElem? (i := 14) rfl)) (hw _ (List.mem_of_getElem? (i := 6) rfl)) (by decide) (by decide)) q3a q3c (g := (mkF m 44 #[.val (.int p0), .val (.int p1), .val (.int ((p0 &&& (2147483647 : Int32)) - ((p0 &&& (2147483647 : Int32)) / (22 : Int32)) * (22 : Int32))), .val (.int ((p1 &&& (2147483647 : Int32)) - ((p1 &&& (2147483647 : Int32)) / (22 : Int32)) * (22 : Int32))), .val (.ref (own_f1_0 ((p0 &&& (2147483647 : Int32)) - ((p0 &&& (2147483647 : Int32)) / (22 : Int32)) * (22 : Int32)) w_AAA w_AA_PLUS w_AA w_AA_MINUS w_A_PLUS w_A w_A_MINUS w_BBB_PLUS w_BBB w_BBB_MINUS w_BB_PLUS w_BB w_BB_MINUS w_B_PLUS w_B w_B_MINUS w_CCC_PLUS w_CCC w_CCC_MINUS w_CC w_C w_D)), .val (.ref (own_f1_0 ((p1 &&& (2147483647 : Int32)) - ((p1 &&& (2147483647 : Int32)) / (22 : Int32)) * (22 : Int32)) w_AAA w_AA_PLUS w_AA w_AA_MINUS w_A_PLUS w_A w_A_MINUS w_BBB_PLUS w_BBB w_BBB_MINUS w_BB_PLUS w_BB w_BB_MINUS w_B_PLUS w_B w_B_MINUS w_CCC_PLUS w_CCC w_CCC_MINUS w_CC w_C w_D)), .val (.int t38_0)] [(.ref (own_f1_0 ((p1 &&& (2147483647 : Int32)) - ((p1 &&& (2147483647 : Int32)) / (22 : Int32)) * (22 : Int32)) w_AAA w_AA_PLUS w_AA w_AA_MINUS w_A_PLUS w_A w_A_MINUS w_BBB_PLUS w_BBB w_BBB_MINUS w_BB_PLUS w_BB w_BB_MINUS w_B_PLUS w_B w_B_MINUS w_CCC_PLUS w_CCC w_CCC_MINUS w_CC w_C w_D)), (.ref (own_f1_0 ((p0 &&& (2147483647 : Int32)) - ((p0 &&& (2147483647 : Int32)) / (22 : Int32)) * (22 : Int32)) w_AAA w_AA_PLUS w_AA w_AA_MINUS w_A_PLUS w_A w_A_MINUS w_BBB_PLUS w_BBB w_BBB_MINUS w_BB_PLUS w_BB w_BB_MINUS w_B_PLUS w_B w_B_MINUS w_CCC_PLUS w_CCC w_CCC_MINUS w_CC w_C w_D))])) rfl (by rw [hml]; rfl) (Steps.refl _) (argsL := [(.ref (own_f1_0 ((p1 &&& (2147483647 : Int32)) - ((p1 &&& (2147483647 : Int32)) / (22 : Int32)) * (22 : Int32)) w_AAA w_AA_PLUS w_AA w_AA_MINUS w_A_PLUS w_A w_A_MINUS w_BBB_PLUS w_BBB w_BBB_MINUS w_BB_PLUS w_BB w_BB_MINUS w_B_PLUS w_B w_B_MINUS w_CCC_PLUS w_CCC w_CCC_MINUS w_CC w_C w_D))]) (rest := []) (lenOf own_pd2 rfl) rfl (by show 2 * 0 + _ ≤ _; exact Nat.le_of_eq rfl) (hb hby at_44) (fun _ _ => ⟨rfl, e38j, (by decide : 0 + 0 ≤ _), (by decide : 0 + 0 ≤ _)⟩)
    dsimp only [Pt.U, Pt.locs, Pt.cells, Pt.slots] at X3 l3 y3 z3 st3 hQ3
    subst y3 z3
    obtain ⟨rfl, N3q, e3⟩ := hQ3
    have N3 : Fr n0 L3 := by rw [l3]; exact Fr.app N38j N3q
    refine Owe.step (T' := T3) (g' := (mkF m 49 #[.val (.int p0), .val (.int p1), .val (.int ((p0 &&& (2147483647 : Int32)) - ((p0 &&& (2147483647 : Int32)) / (22 : Int32)) * (22 : Int32))), .val (.int ((p1 &&& (2147483647 : Int32)) - ((p1 &&& (2147483647 : Int32)) / (22 : Int32)) * (22 : Int32))), .val (.ref (own_f1_0 ((p0 &&& (2147483647 : Int32)) - ((p0 &&& (2147483647 : Int32)) / (22 : Int32)) * (22 : Int32)) w_AAA w_AA_PLUS w_AA w_AA_MINUS w_A_PLUS w_A w_A_MINUS w_BBB_PLUS w_BBB w_BBB_MINUS w_BB_PLUS w_BB w_BB_MINUS w_B_PLUS w_B w_B_MINUS w_CCC_PLUS w_CCC w_CCC_MINUS w_CC w_C w_D)), .val (.ref (own_f1_0 ((p1 &&& (2147483647 : Int32)) - ((p1 &&& (2147483647 : Int32)) / (22 : Int32)) * (22 : Int32)) w_AAA w_AA_PLUS w_AA w_AA_MINUS w_A_PLUS w_A w_A_MINUS w_BBB_PLUS w_BBB w_BBB_MINUS w_BB_PLUS w_BB w_BB_MINUS w_B_PLUS w_B w_B_MINUS w_CCC_PLUS w_CCC w_CCC_MINUS w_CC w_C w_D)), .val (.int t38_0)] [(.int t38_0), (.int (own_f2_0 (own_od ((p0 &&& (2147483647 : Int32)) - ((p0 &&& (2147483647 : Int32)) / (22 : Int32)) * (22 : Int32))) (own_od ((p1 &&& (2147483647 : Int32)) - ((p1 &&& (2147483647 : Int32)) / (22 : Int32)) * (22 : Int32)))))])) (fun t k => ?_) ?_
    · show Steps p.tables e below (T38j.setTop (mkF m 38 #[.val (.int p0), .val (.int p1), .val (.int ((p0 &&& (2147483647 : Int32)) - ((p0 &&& (2147483647 : Int32)) / (22 : Int32)) * (22 : Int32))), .val (.int ((p1 &&& (2147483647 : Int32)) - ((p1 &&& (2147483647 : Int32)) / (22 : Int32)) * (22 : Int32))), .val (.ref (own_f1_0 ((p0 &&& (2147483647 : Int32)) - ((p0 &&& (2147483647 : Int32)) / (22 : Int32)) * (22 : Int32)) w_AAA w_AA_PLUS w_AA w_AA_MINUS w_A_PLUS w_A w_A_MINUS w_BBB_PLUS w_BBB w_BBB_MINUS w_BB_PLUS w_BB w_BB_MINUS w_B_PLUS w_B w_B_MINUS w_CCC_PLUS w_CCC w_CCC_MINUS w_CC w_C w_D)), .val (.ref (own_f1_0 ((p1 &&& (2147483647 : Int32)) - ((p1 &&& (2147483647 : Int32)) / (22 : Int32)) * (22 : Int32)) w_AAA w_AA_PLUS w_AA w_AA_MINUS w_A_PLUS w_A w_A_MINUS w_BBB_PLUS w_BBB w_BBB_MINUS w_BB_PLUS w_BB w_BB_MINUS w_B_PLUS w_B w_B_MINUS w_CCC_PLUS w_CCC w_CCC_MINUS w_CC w_C w_D)), .unset] [(.int t38_0)])) t
      refine XS.istore X38j.here hx rfl (hb hby at_38) rfl (l' := #[.val (.int p0), .val (.int p1), .val (.int ((p0 &&& (2147483647 : Int32)) - ((p0 &&& (2147483647 : Int32)) / (22 : Int32)) * (22 : Int32))), .val (.int ((p1 &&& (2147483647 : Int32)) - ((p1 &&& (2147483647 : Int32)) / (22 : Int32)) * (22 : Int32))), .val (.ref (own_f1_0 ((p0 &&& (2147483647 : Int32)) - ((p0 &&& (2147483647 : Int32)) / (22 : Int32)) * (22 : Int32)) w_AAA w_AA_PLUS w_AA w_AA_MINUS w_A_PLUS w_A w_A_MINUS w_BBB_PLUS w_BBB w_BBB_MINUS w_BB_PLUS w_BB w_BB_MINUS w_B_PLUS w_B w_B_MINUS w_CCC_PLUS w_CCC w_CCC_MINUS w_CC w_C w_D)), .val (.ref (own_f1_0 ((p1 &&& (2147483647 : Int32)) - ((p1 &&& (2147483647 : Int32)) / (22 : Int32)) * (22 : Int32)) w_AAA w_AA_PLUS w_AA w_AA_MINUS w_A_PLUS w_A w_A_MINUS w_BBB_PLUS w_BBB w_BBB_MINUS w_BB_PLUS w_BB w_BB_MINUS w_B_PLUS w_B w_B_MINUS w_CCC_PLUS w_CCC w_CCC_MINUS w_CC w_C w_D)), .val (.int t38_0)]) rfl ?_
      show Steps p.tables e below (T38j.setTop (mkF m 40 #[.val (.int p0), .val (.int p1), .val (.int ((p0 &&& (2147483647 : Int32)) - ((p0 &&& (2147483647 : Int32)) / (22 : Int32)) * (22 : Int32))), .val (.int ((p1 &&& (2147483647 : Int32)) - ((p1 &&& (2147483647 : Int32)) / (22 : Int32)) * (22 : Int32))), .val (.ref (own_f1_0 ((p0 &&& (2147483647 : Int32)) - ((p0 &&& (2147483647 : Int32)) / (22 : Int32)) * (22 : Int32)) w_AAA w_AA_PLUS w_AA w_AA_MINUS w_A_PLUS w_A w_A_MINUS w_BBB_PLUS w_BBB w_BBB_MINUS w_BB_PLUS w_BB w_BB_MINUS w_B_PLUS w_B w_B_MINUS w_CCC_PLUS w_CCC w_CCC_MINUS w_CC w_C w_D)), .val (.ref (own_f1_0 ((p1 &&& (2147483647 : Int32)) - ((p1 &&& (2147483647 : Int32)) / (22 : Int32)) * (22 : Int32)) w_AAA w_AA_PLUS w_AA w_AA_MINUS w_A_PLUS w_A w_A_MINUS w_BBB_PLUS w_BBB w_BBB_MINUS w_BB_PLUS w_BB w_BB_MINUS w_B_PLUS w_B w_B_MINUS w_CCC_PLUS w_CCC w_CCC_MINUS w_CC w_C w_D)), .val (.int t38_0)] [])) t
      refine XS.aload X38j.here hx rfl (hb hby at_40) rfl rfl ?_
      show Steps p.tables e below (T38j.setTop (mkF m 42 #[.val (.int p0), .val (.int p1), .val (.int ((p0 &&& (2147483647 : Int32)) - ((p0 &&& (2147483647 : Int32)) / (22 : Int32)) * (22 : Int32))), .val (.int ((p1 &&& (2147483647 : Int32)) - ((p1 &&& (2147483647 : Int32)) / (22 : Int32)) * (22 : Int32))), .val (.ref (own_f1_0 ((p0 &&& (2147483647 : Int32)) - ((p0 &&& (2147483647 : Int32)) / (22 : Int32)) * (22 : Int32)) w_AAA w_AA_PLUS w_AA w_AA_MINUS w_A_PLUS w_A w_A_MINUS w_BBB_PLUS w_BBB w_BBB_MINUS w_BB_PLUS w_BB w_BB_MINUS w_B_PLUS w_B w_B_MINUS w_CCC_PLUS w_CCC w_CCC_MINUS w_CC w_C w_D)), .val (.ref (own_f1_0 ((p1 &&& (2147483647 : Int32)) - ((p1 &&& (2147483647 : Int32)) / (22 : Int32)) * (22 : Int32)) w_AAA w_AA_PLUS w_AA w_AA_MINUS w_A_PLUS w_A w_A_MINUS w_BBB_PLUS w_BBB w_BBB_MINUS w_BB_PLUS w_BB w_BB_MINUS w_B_PLUS w_B w_B_MINUS w_CCC_PLUS w_CCC w_CCC_MINUS w_CC w_C w_D)), .val (.int t38_0)] [(.ref (own_f1_0 ((p0 &&& (2147483647 : Int32)) - ((p0 &&& (2147483647 : Int32)) / (22 : Int32)) * (22 : Int32)) w_AAA w_AA_PLUS w_AA w_AA_MINUS w_A_PLUS w_A w_A_MINUS w_BBB_PLUS w_BBB w_BBB_MINUS w_BB_PLUS w_BB w_BB_MINUS w_B_PLUS w_B w_B_MINUS w_CCC_PLUS w_CCC w_CCC_MINUS w_CC w_C w_D))])) t
      refine XS.aload X38j.here hx rfl (hb hby at_42) rfl rfl ?_
      show Steps p.tables e below (T38j.setTop (mkF m 44 #[.val (.int p0), .val (.int p1), .val (.int ((p0 &&& (2147483647 : Int32)) - ((p0 &&& (2147483647 : Int32)) / (22 : Int32)) * (22 : Int32))), .val (.int ((p1 &&& (2147483647 : Int32)) - ((p1 &&& (2147483647 : Int32)) / (22 : Int32)) * (22 : Int32))), .val (.ref (own_f1_0 ((p0 &&& (2147483647 : Int32)) - ((p0 &&& (2147483647 : Int32)) / (22 : Int32)) * (22 : Int32)) w_AAA w_AA_PLUS w_AA w_AA_MINUS w_A_PLUS w_A w_A_MINUS w_BBB_PLUS w_BBB w_BBB_MINUS w_BB_PLUS w_BB w_BB_MINUS w_B_PLUS w_B w_B_MINUS w_CCC_PLUS w_CCC w_CCC_MINUS w_CC w_C w_D)), .val (.ref (own_f1_0 ((p1 &&& (2147483647 : Int32)) - ((p1 &&& (2147483647 : Int32)) / (22 : Int32)) * (22 : Int32)) w_AAA w_AA_PLUS w_AA w_AA_MINUS w_A_PLUS w_A w_A_MINUS w_BBB_PLUS w_BBB w_BBB_MINUS w_BB_PLUS w_BB w_BB_MINUS w_B_PLUS w_B w_B_MINUS w_CCC_PLUS w_CCC w_CCC_MINUS w_CC w_C w_D)), .val (.int t38_0)] [(.ref (own_f1_0 ((p1 &&& (2147483647 : Int32)) - ((p1 &&& (2147483647 : Int32)) / (22 : Int32)) * (22 : Int32)) w_AAA w_AA_PLUS w_AA w_AA_MINUS w_A_PLUS w_A w_A_MINUS w_BBB_PLUS w_BBB w_BBB_MINUS w_BB_PLUS w_BB w_BB_MINUS w_B_PLUS w_B w_B_MINUS w_CCC_PLUS w_CCC w_CCC_MINUS w_CC w_C w_D)), (.ref (own_f1_0 ((p0 &&& (2147483647 : Int32)) - ((p0 &&& (2147483647 : Int32)) / (22 : Int32)) * (22 : Int32)) w_AAA w_AA_PLUS w_AA w_AA_MINUS w_A_PLUS w_A w_A_MINUS w_BBB_PLUS w_BBB w_BBB_MINUS w_BB_PLUS w_BB w_BB_MINUS w_B_PLUS w_B w_B_MINUS w_CCC_PLUS w_CCC w_CCC_MINUS w_CC w_C w_D))])) t
      refine st3.trans ?_
      show Steps p.tables e below (T3.setTop (mkF m 47 #[.val (.int p0), .val (.int p1), .val (.int ((p0 &&& (2147483647 : Int32)) - ((p0 &&& (2147483647 : Int32)) / (22 : Int32)) * (22 : Int32))), .val (.int ((p1 &&& (2147483647 : Int32)) - ((p1 &&& (2147483647 : Int32)) / (22 : Int32)) * (22 : Int32))), .val (.ref (own_f1_0 ((p0 &&& (2147483647 : Int32)) - ((p0 &&& (2147483647 : Int32)) / (22 : Int32)) * (22 : Int32)) w_AAA w_AA_PLUS w_AA w_AA_MINUS w_A_PLUS w_A w_A_MINUS w_BBB_PLUS w_BBB w_BBB_MINUS w_BB_PLUS w_BB w_BB_MINUS w_B_PLUS w_B w_B_MINUS w_CCC_PLUS w_CCC w_CCC_MINUS w_CC w_C w_D)), .val (.ref (own_f1_0 ((p1 &&& (2147483647 : Int32)) - ((p1 &&& (2147483647 : Int32)) / (22 : Int32)) * (22 : Int32)) w_AAA w_AA_PLUS w_AA w_AA_MINUS w_A_PLUS w_A w_A_MINUS w_BBB_PLUS w_BBB w_BBB_MINUS w_BB_PLUS w_BB w_BB_MINUS w_B_PLUS w_B w_B_MINUS w_CCC_PLUS w_CCC w_CCC_MINUS w_CC w_C w_D)), .val (.int t38_0)] [(.int (own_f2_0 (own_od ((p0 &&& (2147483647 : Int32)) - ((p0 &&& (2147483647 : Int32)) / (22 : Int32)) * (22 : Int32))) (own_od ((p1 &&& (2147483647 : Int32)) - ((p1 &&& (2147483647 : Int32)) / (22 : Int32)) * (22 : Int32)))))])) t
      refine XS.iload X3.here hx rfl (hb hby at_47) rfl ?_
      show Steps p.tables e below (T3.setTop (mkF m 49 #[.val (.int p0), .val (.int p1), .val (.int ((p0 &&& (2147483647 : Int32)) - ((p0 &&& (2147483647 : Int32)) / (22 : Int32)) * (22 : Int32))), .val (.int ((p1 &&& (2147483647 : Int32)) - ((p1 &&& (2147483647 : Int32)) / (22 : Int32)) * (22 : Int32))), .val (.ref (own_f1_0 ((p0 &&& (2147483647 : Int32)) - ((p0 &&& (2147483647 : Int32)) / (22 : Int32)) * (22 : Int32)) w_AAA w_AA_PLUS w_AA w_AA_MINUS w_A_PLUS w_A w_A_MINUS w_BBB_PLUS w_BBB w_BBB_MINUS w_BB_PLUS w_BB w_BB_MINUS w_B_PLUS w_B w_B_MINUS w_CCC_PLUS w_CCC w_CCC_MINUS w_CC w_C w_D)), .val (.ref (own_f1_0 ((p1 &&& (2147483647 : Int32)) - ((p1 &&& (2147483647 : Int32)) / (22 : Int32)) * (22 : Int32)) w_AAA w_AA_PLUS w_AA w_AA_MINUS w_A_PLUS w_A w_A_MINUS w_BBB_PLUS w_BBB w_BBB_MINUS w_BB_PLUS w_BB w_BB_MINUS w_B_PLUS w_B w_B_MINUS w_CCC_PLUS w_CCC w_CCC_MINUS w_CC w_C w_D)), .val (.int t38_0)] [(.int t38_0), (.int (own_f2_0 (own_od ((p0 &&& (2147483647 : Int32)) - ((p0 &&& (2147483647 : Int32)) / (22 : Int32)) * (22 : Int32))) (own_od ((p1 &&& (2147483647 : Int32)) - ((p1 &&& (2147483647 : Int32)) / (22 : Int32)) * (22 : Int32)))))])) t
      exact k
    by_cases hc49 : (own_f2_0 (own_od ((p0 &&& (2147483647 : Int32)) - ((p0 &&& (2147483647 : Int32)) / (22 : Int32)) * (22 : Int32))) (own_od ((p1 &&& (2147483647 : Int32)) - ((p1 &&& (2147483647 : Int32)) / (22 : Int32)) * (22 : Int32)))) = t38_0
    · refine Owe.step (T' := T3) (g' := (mkF m 52 #[.val (.int p0), .val (.int p1), .val (.int ((p0 &&& (2147483647 : Int32)) - ((p0 &&& (2147483647 : Int32)) / (22 : Int32)) * (22 : Int32))), .val (.int ((p1 &&& (2147483647 : Int32)) - ((p1 &&& (2147483647 : Int32)) / (22 : Int32)) * (22 : Int32))), .val (.ref (own_f1_0 ((p0 &&& (2147483647 : Int32)) - ((p0 &&& (2147483647 : Int32)) / (22 : Int32)) * (22 : Int32)) w_AAA w_AA_PLUS w_AA w_AA_MINUS w_A_PLUS w_A w_A_MINUS w_BBB_PLUS w_BBB w_BBB_MINUS w_BB_PLUS w_BB w_BB_MINUS w_B_PLUS w_B w_B_MINUS w_CCC_PLUS w_CCC w_CCC_MINUS w_CC w_C w_D)), .val (.ref (own_f1_0 ((p1 &&& (2147483647 : Int32)) - ((p1 &&& (2147483647 : Int32)) / (22 : Int32)) * (22 : Int32)) w_AAA w_AA_PLUS w_AA w_AA_MINUS w_A_PLUS w_A w_A_MINUS w_BBB_PLUS w_BBB w_BBB_MINUS w_BB_PLUS w_BB w_BB_MINUS w_B_PLUS w_B w_B_MINUS w_CCC_PLUS w_CCC w_CCC_MINUS w_CC w_C w_D)), .val (.int t38_0)] [])) (fun t k => ?_) ?_
      · show Steps p.tables e below (T3.setTop (mkF m 49 #[.val (.int p0), .val (.int p1), .val (.int ((p0 &&& (2147483647 : Int32)) - ((p0 &&& (2147483647 : Int32)) / (22 : Int32)) * (22 : Int32))), .val (.int ((p1 &&& (2147483647 : Int32)) - ((p1 &&& (2147483647 : Int32)) / (22 : Int32)) * (22 : Int32))), .val (.ref (own_f1_0 ((p0 &&& (2147483647 : Int32)) - ((p0 &&& (2147483647 : Int32)) / (22 : Int32)) * (22 : Int32)) w_AAA w_AA_PLUS w_AA w_AA_MINUS w_A_PLUS w_A w_A_MINUS w_BBB_PLUS w_BBB w_BBB_MINUS w_BB_PLUS w_BB w_BB_MINUS w_B_PLUS w_B w_B_MINUS w_CCC_PLUS w_CCC w_CCC_MINUS w_CC w_C w_D)), .val (.ref (own_f1_0 ((p1 &&& (2147483647 : Int32)) - ((p1 &&& (2147483647 : Int32)) / (22 : Int32)) * (22 : Int32)) w_AAA w_AA_PLUS w_AA w_AA_MINUS w_A_PLUS w_A w_A_MINUS w_BBB_PLUS w_BBB w_BBB_MINUS w_BB_PLUS w_BB w_BB_MINUS w_B_PLUS w_B w_B_MINUS w_CCC_PLUS w_CCC w_CCC_MINUS w_CC w_C w_D)), .val (.int t38_0)] [(.int t38_0), (.int (own_f2_0 (own_od ((p0 &&& (2147483647 : Int32)) - ((p0 &&& (2147483647 : Int32)) / (22 : Int32)) * (22 : Int32))) (own_od ((p1 &&& (2147483647 : Int32)) - ((p1 &&& (2147483647 : Int32)) / (22 : Int32)) * (22 : Int32)))))])) t
        refine XS.icmpNo X3.here hx rfl (hb hby at_49) rfl (teq hc49).2 ?_
        show Steps p.tables e below (T3.setTop (mkF m 52 #[.val (.int p0), .val (.int p1), .val (.int ((p0 &&& (2147483647 : Int32)) - ((p0 &&& (2147483647 : Int32)) / (22 : Int32)) * (22 : Int32))), .val (.int ((p1 &&& (2147483647 : Int32)) - ((p1 &&& (2147483647 : Int32)) / (22 : Int32)) * (22 : Int32))), .val (.ref (own_f1_0 ((p0 &&& (2147483647 : Int32)) - ((p0 &&& (2147483647 : Int32)) / (22 : Int32)) * (22 : Int32)) w_AAA w_AA_PLUS w_AA w_AA_MINUS w_A_PLUS w_A w_A_MINUS w_BBB_PLUS w_BBB w_BBB_MINUS w_BB_PLUS w_BB w_BB_MINUS w_B_PLUS w_B w_B_MINUS w_CCC_PLUS w_CCC w_CCC_MINUS w_CC w_C w_D)), .val (.ref (own_f1_0 ((p1 &&& (2147483647 : Int32)) - ((p1 &&& (2147483647 : Int32)) / (22 : Int32)) * (22 : Int32)) w_AAA w_AA_PLUS w_AA w_AA_MINUS w_A_PLUS w_A w_A_MINUS w_BBB_PLUS w_BBB w_BBB_MINUS w_BB_PLUS w_BB w_BB_MINUS w_B_PLUS w_B w_B_MINUS w_CCC_PLUS w_CCC w_CCC_MINUS w_CC w_C w_D)), .val (.int t38_0)] [])) t
        exact k
      rw [show own_f0_38 p0 p1 t38_0 = (1 : Int32) from (by rw [own_f0_38, if_pos hc49])]
      refine Owe.ret X3 Bd.notSynchronized (v := (some (.int (1 : Int32)))) (fun h => by rw [Bd.returns] at h; cases h) (fun fs hr => ?_) ⟨rfl, N3⟩ (by decide) (by decide)
      show Steps p.tables e below (T3.setTop (mkF m 52 #[.val (.int p0), .val (.int p1), .val (.int ((p0 &&& (2147483647 : Int32)) - ((p0 &&& (2147483647 : Int32)) / (22 : Int32)) * (22 : Int32))), .val (.int ((p1 &&& (2147483647 : Int32)) - ((p1 &&& (2147483647 : Int32)) / (22 : Int32)) * (22 : Int32))), .val (.ref (own_f1_0 ((p0 &&& (2147483647 : Int32)) - ((p0 &&& (2147483647 : Int32)) / (22 : Int32)) * (22 : Int32)) w_AAA w_AA_PLUS w_AA w_AA_MINUS w_A_PLUS w_A w_A_MINUS w_BBB_PLUS w_BBB w_BBB_MINUS w_BB_PLUS w_BB w_BB_MINUS w_B_PLUS w_B w_B_MINUS w_CCC_PLUS w_CCC w_CCC_MINUS w_CC w_C w_D)), .val (.ref (own_f1_0 ((p1 &&& (2147483647 : Int32)) - ((p1 &&& (2147483647 : Int32)) / (22 : Int32)) * (22 : Int32)) w_AAA w_AA_PLUS w_AA w_AA_MINUS w_A_PLUS w_A w_A_MINUS w_BBB_PLUS w_BBB w_BBB_MINUS w_BB_PLUS w_BB w_BB_MINUS w_B_PLUS w_B w_B_MINUS w_CCC_PLUS w_CCC w_CCC_MINUS w_CC w_C w_D)), .val (.int t38_0)] [])) _
      refine XS.iconst X3.here hx rfl (hb hby at_52) ?_
      show Steps p.tables e below (T3.setTop (mkF m 53 #[.val (.int p0), .val (.int p1), .val (.int ((p0 &&& (2147483647 : Int32)) - ((p0 &&& (2147483647 : Int32)) / (22 : Int32)) * (22 : Int32))), .val (.int ((p1 &&& (2147483647 : Int32)) - ((p1 &&& (2147483647 : Int32)) / (22 : Int32)) * (22 : Int32))), .val (.ref (own_f1_0 ((p0 &&& (2147483647 : Int32)) - ((p0 &&& (2147483647 : Int32)) / (22 : Int32)) * (22 : Int32)) w_AAA w_AA_PLUS w_AA w_AA_MINUS w_A_PLUS w_A w_A_MINUS w_BBB_PLUS w_BBB w_BBB_MINUS w_BB_PLUS w_BB w_BB_MINUS w_B_PLUS w_B w_B_MINUS w_CCC_PLUS w_CCC w_CCC_MINUS w_CC w_C w_D)), .val (.ref (own_f1_0 ((p1 &&& (2147483647 : Int32)) - ((p1 &&& (2147483647 : Int32)) / (22 : Int32)) * (22 : Int32)) w_AAA w_AA_PLUS w_AA w_AA_MINUS w_A_PLUS w_A w_A_MINUS w_BBB_PLUS w_BBB w_BBB_MINUS w_BB_PLUS w_BB w_BB_MINUS w_B_PLUS w_B w_B_MINUS w_CCC_PLUS w_CCC w_CCC_MINUS w_CC w_C w_D)), .val (.int t38_0)] [(.int (1 : Int32))])) _
      refine XS.goto X3.here hx rfl (pc0 := 53) (pc' := 57) rfl (hb hby at_53) (by decide) (by decide) ?_
      show Steps p.tables e below (T3.setTop (mkF m 57 #[.val (.int p0), .val (.int p1), .val (.int ((p0 &&& (2147483647 : Int32)) - ((p0 &&& (2147483647 : Int32)) / (22 : Int32)) * (22 : Int32))), .val (.int ((p1 &&& (2147483647 : Int32)) - ((p1 &&& (2147483647 : Int32)) / (22 : Int32)) * (22 : Int32))), .val (.ref (own_f1_0 ((p0 &&& (2147483647 : Int32)) - ((p0 &&& (2147483647 : Int32)) / (22 : Int32)) * (22 : Int32)) w_AAA w_AA_PLUS w_AA w_AA_MINUS w_A_PLUS w_A w_A_MINUS w_BBB_PLUS w_BBB w_BBB_MINUS w_BB_PLUS w_BB w_BB_MINUS w_B_PLUS w_B w_B_MINUS w_CCC_PLUS w_CCC w_CCC_MINUS w_CC w_C w_D)), .val (.ref (own_f1_0 ((p1 &&& (2147483647 : Int32)) - ((p1 &&& (2147483647 : Int32)) / (22 : Int32)) * (22 : Int32)) w_AAA w_AA_PLUS w_AA w_AA_MINUS w_A_PLUS w_A w_A_MINUS w_BBB_PLUS w_BBB w_BBB_MINUS w_BB_PLUS w_BB w_BB_MINUS w_B_PLUS w_B w_B_MINUS w_CCC_PLUS w_CCC w_CCC_MINUS w_CC w_C w_D)), .val (.int t38_0)] [(.int (1 : Int32))])) _
      exact retN X3 hx (t := .boolean) Bd.returns (by simp) (hb hby at_57) hr
    · refine Owe.step (T' := T3) (g' := (mkF m 56 #[.val (.int p0), .val (.int p1), .val (.int ((p0 &&& (2147483647 : Int32)) - ((p0 &&& (2147483647 : Int32)) / (22 : Int32)) * (22 : Int32))), .val (.int ((p1 &&& (2147483647 : Int32)) - ((p1 &&& (2147483647 : Int32)) / (22 : Int32)) * (22 : Int32))), .val (.ref (own_f1_0 ((p0 &&& (2147483647 : Int32)) - ((p0 &&& (2147483647 : Int32)) / (22 : Int32)) * (22 : Int32)) w_AAA w_AA_PLUS w_AA w_AA_MINUS w_A_PLUS w_A w_A_MINUS w_BBB_PLUS w_BBB w_BBB_MINUS w_BB_PLUS w_BB w_BB_MINUS w_B_PLUS w_B w_B_MINUS w_CCC_PLUS w_CCC w_CCC_MINUS w_CC w_C w_D)), .val (.ref (own_f1_0 ((p1 &&& (2147483647 : Int32)) - ((p1 &&& (2147483647 : Int32)) / (22 : Int32)) * (22 : Int32)) w_AAA w_AA_PLUS w_AA w_AA_MINUS w_A_PLUS w_A w_A_MINUS w_BBB_PLUS w_BBB w_BBB_MINUS w_BB_PLUS w_BB w_BB_MINUS w_B_PLUS w_B w_B_MINUS w_CCC_PLUS w_CCC w_CCC_MINUS w_CC w_C w_D)), .val (.int t38_0)] [])) (fun t k => ?_) ?_
      · show Steps p.tables e below (T3.setTop (mkF m 49 #[.val (.int p0), .val (.int p1), .val (.int ((p0 &&& (2147483647 : Int32)) - ((p0 &&& (2147483647 : Int32)) / (22 : Int32)) * (22 : Int32))), .val (.int ((p1 &&& (2147483647 : Int32)) - ((p1 &&& (2147483647 : Int32)) / (22 : Int32)) * (22 : Int32))), .val (.ref (own_f1_0 ((p0 &&& (2147483647 : Int32)) - ((p0 &&& (2147483647 : Int32)) / (22 : Int32)) * (22 : Int32)) w_AAA w_AA_PLUS w_AA w_AA_MINUS w_A_PLUS w_A w_A_MINUS w_BBB_PLUS w_BBB w_BBB_MINUS w_BB_PLUS w_BB w_BB_MINUS w_B_PLUS w_B w_B_MINUS w_CCC_PLUS w_CCC w_CCC_MINUS w_CC w_C w_D)), .val (.ref (own_f1_0 ((p1 &&& (2147483647 : Int32)) - ((p1 &&& (2147483647 : Int32)) / (22 : Int32)) * (22 : Int32)) w_AAA w_AA_PLUS w_AA w_AA_MINUS w_A_PLUS w_A w_A_MINUS w_BBB_PLUS w_BBB w_BBB_MINUS w_BB_PLUS w_BB w_BB_MINUS w_B_PLUS w_B w_B_MINUS w_CCC_PLUS w_CCC w_CCC_MINUS w_CC w_C w_D)), .val (.int t38_0)] [(.int t38_0), (.int (own_f2_0 (own_od ((p0 &&& (2147483647 : Int32)) - ((p0 &&& (2147483647 : Int32)) / (22 : Int32)) * (22 : Int32))) (own_od ((p1 &&& (2147483647 : Int32)) - ((p1 &&& (2147483647 : Int32)) / (22 : Int32)) * (22 : Int32)))))])) t
        refine XS.icmpYes X3.here hx rfl (pc0 := 49) (pc' := 56) rfl (hb hby at_49) rfl (feq hc49).2 (by decide) (by decide) ?_
        show Steps p.tables e below (T3.setTop (mkF m 56 #[.val (.int p0), .val (.int p1), .val (.int ((p0 &&& (2147483647 : Int32)) - ((p0 &&& (2147483647 : Int32)) / (22 : Int32)) * (22 : Int32))), .val (.int ((p1 &&& (2147483647 : Int32)) - ((p1 &&& (2147483647 : Int32)) / (22 : Int32)) * (22 : Int32))), .val (.ref (own_f1_0 ((p0 &&& (2147483647 : Int32)) - ((p0 &&& (2147483647 : Int32)) / (22 : Int32)) * (22 : Int32)) w_AAA w_AA_PLUS w_AA w_AA_MINUS w_A_PLUS w_A w_A_MINUS w_BBB_PLUS w_BBB w_BBB_MINUS w_BB_PLUS w_BB w_BB_MINUS w_B_PLUS w_B w_B_MINUS w_CCC_PLUS w_CCC w_CCC_MINUS w_CC w_C w_D)), .val (.ref (own_f1_0 ((p1 &&& (2147483647 : Int32)) - ((p1 &&& (2147483647 : Int32)) / (22 : Int32)) * (22 : Int32)) w_AAA w_AA_PLUS w_AA w_AA_MINUS w_A_PLUS w_A w_A_MINUS w_BBB_PLUS w_BBB w_BBB_MINUS w_BB_PLUS w_BB w_BB_MINUS w_B_PLUS w_B w_B_MINUS w_CCC_PLUS w_CCC w_CCC_MINUS w_CC w_C w_D)), .val (.int t38_0)] [])) t
        exact k
      rw [show own_f0_38 p0 p1 t38_0 = (0 : Int32) from (by rw [own_f0_38, if_neg hc49])]
      refine Owe.ret X3 Bd.notSynchronized (v := (some (.int (0 : Int32)))) (fun h => by rw [Bd.returns] at h; cases h) (fun fs hr => ?_) ⟨rfl, N3⟩ (by decide) (by decide)
      show Steps p.tables e below (T3.setTop (mkF m 56 #[.val (.int p0), .val (.int p1), .val (.int ((p0 &&& (2147483647 : Int32)) - ((p0 &&& (2147483647 : Int32)) / (22 : Int32)) * (22 : Int32))), .val (.int ((p1 &&& (2147483647 : Int32)) - ((p1 &&& (2147483647 : Int32)) / (22 : Int32)) * (22 : Int32))), .val (.ref (own_f1_0 ((p0 &&& (2147483647 : Int32)) - ((p0 &&& (2147483647 : Int32)) / (22 : Int32)) * (22 : Int32)) w_AAA w_AA_PLUS w_AA w_AA_MINUS w_A_PLUS w_A w_A_MINUS w_BBB_PLUS w_BBB w_BBB_MINUS w_BB_PLUS w_BB w_BB_MINUS w_B_PLUS w_B w_B_MINUS w_CCC_PLUS w_CCC w_CCC_MINUS w_CC w_C w_D)), .val (.ref (own_f1_0 ((p1 &&& (2147483647 : Int32)) - ((p1 &&& (2147483647 : Int32)) / (22 : Int32)) * (22 : Int32)) w_AAA w_AA_PLUS w_AA w_AA_MINUS w_A_PLUS w_A w_A_MINUS w_BBB_PLUS w_BBB w_BBB_MINUS w_BB_PLUS w_BB w_BB_MINUS w_B_PLUS w_B w_B_MINUS w_CCC_PLUS w_CCC w_CCC_MINUS w_CC w_C w_D)), .val (.int t38_0)] [])) _
      refine XS.iconst X3.here hx rfl (hb hby at_56) ?_
      show Steps p.tables e below (T3.setTop (mkF m 57 #[.val (.int p0), .val (.int p1), .val (.int ((p0 &&& (2147483647 : Int32)) - ((p0 &&& (2147483647 : Int32)) / (22 : Int32)) * (22 : Int32))), .val (.int ((p1 &&& (2147483647 : Int32)) - ((p1 &&& (2147483647 : Int32)) / (22 : Int32)) * (22 : Int32))), .val (.ref (own_f1_0 ((p0 &&& (2147483647 : Int32)) - ((p0 &&& (2147483647 : Int32)) / (22 : Int32)) * (22 : Int32)) w_AAA w_AA_PLUS w_AA w_AA_MINUS w_A_PLUS w_A w_A_MINUS w_BBB_PLUS w_BBB w_BBB_MINUS w_BB_PLUS w_BB w_BB_MINUS w_B_PLUS w_B w_B_MINUS w_CCC_PLUS w_CCC w_CCC_MINUS w_CC w_C w_D)), .val (.ref (own_f1_0 ((p1 &&& (2147483647 : Int32)) - ((p1 &&& (2147483647 : Int32)) / (22 : Int32)) * (22 : Int32)) w_AAA w_AA_PLUS w_AA w_AA_MINUS w_A_PLUS w_A w_A_MINUS w_BBB_PLUS w_BBB w_BBB_MINUS w_BB_PLUS w_BB w_BB_MINUS w_B_PLUS w_B w_B_MINUS w_CCC_PLUS w_CCC w_CCC_MINUS w_CC w_C w_D)), .val (.int t38_0)] [(.int (0 : Int32))])) _
      exact retN X3 hx (t := .boolean) Bd.returns (by simp) (hb hby at_57) hr
  by_cases hc30 : ((p1 &&& (2147483647 : Int32)) - ((p1 &&& (2147483647 : Int32)) / (22 : Int32)) * (22 : Int32)) < ((p0 &&& (2147483647 : Int32)) - ((p0 &&& (2147483647 : Int32)) / (22 : Int32)) * (22 : Int32))
  · refine Owe.step (T' := T2) (g' := (mkF m 37 #[.val (.int p0), .val (.int p1), .val (.int ((p0 &&& (2147483647 : Int32)) - ((p0 &&& (2147483647 : Int32)) / (22 : Int32)) * (22 : Int32))), .val (.int ((p1 &&& (2147483647 : Int32)) - ((p1 &&& (2147483647 : Int32)) / (22 : Int32)) * (22 : Int32))), .val (.ref (own_f1_0 ((p0 &&& (2147483647 : Int32)) - ((p0 &&& (2147483647 : Int32)) / (22 : Int32)) * (22 : Int32)) w_AAA w_AA_PLUS w_AA w_AA_MINUS w_A_PLUS w_A w_A_MINUS w_BBB_PLUS w_BBB w_BBB_MINUS w_BB_PLUS w_BB w_BB_MINUS w_B_PLUS w_B w_B_MINUS w_CCC_PLUS w_CCC w_CCC_MINUS w_CC w_C w_D)), .val (.ref (own_f1_0 ((p1 &&& (2147483647 : Int32)) - ((p1 &&& (2147483647 : Int32)) / (22 : Int32)) * (22 : Int32)) w_AAA w_AA_PLUS w_AA w_AA_MINUS w_A_PLUS w_A w_A_MINUS w_BBB_PLUS w_BBB w_BBB_MINUS w_BB_PLUS w_BB w_BB_MINUS w_B_PLUS w_B w_B_MINUS w_CCC_PLUS w_CCC w_CCC_MINUS w_CC w_C w_D)), .unset] [])) (fun t k => ?_) ?_
    · show Steps p.tables e below (T2.setTop (mkF m 30 #[.val (.int p0), .val (.int p1), .val (.int ((p0 &&& (2147483647 : Int32)) - ((p0 &&& (2147483647 : Int32)) / (22 : Int32)) * (22 : Int32))), .val (.int ((p1 &&& (2147483647 : Int32)) - ((p1 &&& (2147483647 : Int32)) / (22 : Int32)) * (22 : Int32))), .val (.ref (own_f1_0 ((p0 &&& (2147483647 : Int32)) - ((p0 &&& (2147483647 : Int32)) / (22 : Int32)) * (22 : Int32)) w_AAA w_AA_PLUS w_AA w_AA_MINUS w_A_PLUS w_A w_A_MINUS w_BBB_PLUS w_BBB w_BBB_MINUS w_BB_PLUS w_BB w_BB_MINUS w_B_PLUS w_B w_B_MINUS w_CCC_PLUS w_CCC w_CCC_MINUS w_CC w_C w_D)), .val (.ref (own_f1_0 ((p1 &&& (2147483647 : Int32)) - ((p1 &&& (2147483647 : Int32)) / (22 : Int32)) * (22 : Int32)) w_AAA w_AA_PLUS w_AA w_AA_MINUS w_A_PLUS w_A w_A_MINUS w_BBB_PLUS w_BBB w_BBB_MINUS w_BB_PLUS w_BB w_BB_MINUS w_B_PLUS w_B w_B_MINUS w_CCC_PLUS w_CCC w_CCC_MINUS w_CC w_C w_D)), .unset] [(.int ((p1 &&& (2147483647 : Int32)) - ((p1 &&& (2147483647 : Int32)) / (22 : Int32)) * (22 : Int32))), (.int ((p0 &&& (2147483647 : Int32)) - ((p0 &&& (2147483647 : Int32)) / (22 : Int32)) * (22 : Int32)))])) t
      refine XS.icmpYes X2.here hx rfl (pc0 := 30) (pc' := 37) rfl (hb hby at_30) rfl (tlt hc30).2.2.1 (by decide) (by decide) ?_
      show Steps p.tables e below (T2.setTop (mkF m 37 #[.val (.int p0), .val (.int p1), .val (.int ((p0 &&& (2147483647 : Int32)) - ((p0 &&& (2147483647 : Int32)) / (22 : Int32)) * (22 : Int32))), .val (.int ((p1 &&& (2147483647 : Int32)) - ((p1 &&& (2147483647 : Int32)) / (22 : Int32)) * (22 : Int32))), .val (.ref (own_f1_0 ((p0 &&& (2147483647 : Int32)) - ((p0 &&& (2147483647 : Int32)) / (22 : Int32)) * (22 : Int32)) w_AAA w_AA_PLUS w_AA w_AA_MINUS w_A_PLUS w_A w_A_MINUS w_BBB_PLUS w_BBB w_BBB_MINUS w_BB_PLUS w_BB w_BB_MINUS w_B_PLUS w_B w_B_MINUS w_CCC_PLUS w_CCC w_CCC_MINUS w_CC w_C w_D)), .val (.ref (own_f1_0 ((p1 &&& (2147483647 : Int32)) - ((p1 &&& (2147483647 : Int32)) / (22 : Int32)) * (22 : Int32)) w_AAA w_AA_PLUS w_AA w_AA_MINUS w_A_PLUS w_A w_A_MINUS w_BBB_PLUS w_BBB w_BBB_MINUS w_BB_PLUS w_BB w_BB_MINUS w_B_PLUS w_B w_B_MINUS w_CCC_PLUS w_CCC w_CCC_MINUS w_CC w_C w_D)), .unset] [])) t
      exact k
    refine Owe.step (T' := T2) (g' := (mkF m 38 #[.val (.int p0), .val (.int p1), .val (.int ((p0 &&& (2147483647 : Int32)) - ((p0 &&& (2147483647 : Int32)) / (22 : Int32)) * (22 : Int32))), .val (.int ((p1 &&& (2147483647 : Int32)) - ((p1 &&& (2147483647 : Int32)) / (22 : Int32)) * (22 : Int32))), .val (.ref (own_f1_0 ((p0 &&& (2147483647 : Int32)) - ((p0 &&& (2147483647 : Int32)) / (22 : Int32)) * (22 : Int32)) w_AAA w_AA_PLUS w_AA w_AA_MINUS w_A_PLUS w_A w_A_MINUS w_BBB_PLUS w_BBB w_BBB_MINUS w_BB_PLUS w_BB w_BB_MINUS w_B_PLUS w_B w_B_MINUS w_CCC_PLUS w_CCC w_CCC_MINUS w_CC w_C w_D)), .val (.ref (own_f1_0 ((p1 &&& (2147483647 : Int32)) - ((p1 &&& (2147483647 : Int32)) / (22 : Int32)) * (22 : Int32)) w_AAA w_AA_PLUS w_AA w_AA_MINUS w_A_PLUS w_A w_A_MINUS w_BBB_PLUS w_BBB w_BBB_MINUS w_BB_PLUS w_BB w_BB_MINUS w_B_PLUS w_B w_B_MINUS w_CCC_PLUS w_CCC w_CCC_MINUS w_CC w_C w_D)), .unset] [(.int (0 : Int32))])) (fun t k => ?_) ?_
    · show Steps p.tables e below (T2.setTop (mkF m 37 #[.val (.int p0), .val (.int p1), .val (.int ((p0 &&& (2147483647 : Int32)) - ((p0 &&& (2147483647 : Int32)) / (22 : Int32)) * (22 : Int32))), .val (.int ((p1 &&& (2147483647 : Int32)) - ((p1 &&& (2147483647 : Int32)) / (22 : Int32)) * (22 : Int32))), .val (.ref (own_f1_0 ((p0 &&& (2147483647 : Int32)) - ((p0 &&& (2147483647 : Int32)) / (22 : Int32)) * (22 : Int32)) w_AAA w_AA_PLUS w_AA w_AA_MINUS w_A_PLUS w_A w_A_MINUS w_BBB_PLUS w_BBB w_BBB_MINUS w_BB_PLUS w_BB w_BB_MINUS w_B_PLUS w_B w_B_MINUS w_CCC_PLUS w_CCC w_CCC_MINUS w_CC w_C w_D)), .val (.ref (own_f1_0 ((p1 &&& (2147483647 : Int32)) - ((p1 &&& (2147483647 : Int32)) / (22 : Int32)) * (22 : Int32)) w_AAA w_AA_PLUS w_AA w_AA_MINUS w_A_PLUS w_A w_A_MINUS w_BBB_PLUS w_BBB w_BBB_MINUS w_BB_PLUS w_BB w_BB_MINUS w_B_PLUS w_B w_B_MINUS w_CCC_PLUS w_CCC w_CCC_MINUS w_CC w_C w_D)), .unset] [])) t
      refine XS.iconst X2.here hx rfl (hb hby at_37) ?_
      show Steps p.tables e below (T2.setTop (mkF m 38 #[.val (.int p0), .val (.int p1), .val (.int ((p0 &&& (2147483647 : Int32)) - ((p0 &&& (2147483647 : Int32)) / (22 : Int32)) * (22 : Int32))), .val (.int ((p1 &&& (2147483647 : Int32)) - ((p1 &&& (2147483647 : Int32)) / (22 : Int32)) * (22 : Int32))), .val (.ref (own_f1_0 ((p0 &&& (2147483647 : Int32)) - ((p0 &&& (2147483647 : Int32)) / (22 : Int32)) * (22 : Int32)) w_AAA w_AA_PLUS w_AA w_AA_MINUS w_A_PLUS w_A w_A_MINUS w_BBB_PLUS w_BBB w_BBB_MINUS w_BB_PLUS w_BB w_BB_MINUS w_B_PLUS w_B w_B_MINUS w_CCC_PLUS w_CCC w_CCC_MINUS w_CC w_C w_D)), .val (.ref (own_f1_0 ((p1 &&& (2147483647 : Int32)) - ((p1 &&& (2147483647 : Int32)) / (22 : Int32)) * (22 : Int32)) w_AAA w_AA_PLUS w_AA w_AA_MINUS w_A_PLUS w_A w_A_MINUS w_BBB_PLUS w_BBB w_BBB_MINUS w_BB_PLUS w_BB w_BB_MINUS w_B_PLUS w_B w_B_MINUS w_CCC_PLUS w_CCC w_CCC_MINUS w_CC w_C w_D)), .unset] [(.int (0 : Int32))])) t
      exact k
    refine Owe.cast (show (own_f0_38 p0 p1 (0 : Int32)) = (1 : Int32) from (show own_f0_0 p0 p1 = (own_f0_38 p0 p1 (0 : Int32)) from (by rw [own_f0_0, if_pos hc30])).symm.trans (own_law p0 p1 )) ?_
    exact j38 T2 _ X2 e2 N2 (0 : Int32)
  · refine Owe.step (T' := T2) (g' := (mkF m 33 #[.val (.int p0), .val (.int p1), .val (.int ((p0 &&& (2147483647 : Int32)) - ((p0 &&& (2147483647 : Int32)) / (22 : Int32)) * (22 : Int32))), .val (.int ((p1 &&& (2147483647 : Int32)) - ((p1 &&& (2147483647 : Int32)) / (22 : Int32)) * (22 : Int32))), .val (.ref (own_f1_0 ((p0 &&& (2147483647 : Int32)) - ((p0 &&& (2147483647 : Int32)) / (22 : Int32)) * (22 : Int32)) w_AAA w_AA_PLUS w_AA w_AA_MINUS w_A_PLUS w_A w_A_MINUS w_BBB_PLUS w_BBB w_BBB_MINUS w_BB_PLUS w_BB w_BB_MINUS w_B_PLUS w_B w_B_MINUS w_CCC_PLUS w_CCC w_CCC_MINUS w_CC w_C w_D)), .val (.ref (own_f1_0 ((p1 &&& (2147483647 : Int32)) - ((p1 &&& (2147483647 : Int32)) / (22 : Int32)) * (22 : Int32)) w_AAA w_AA_PLUS w_AA w_AA_MINUS w_A_PLUS w_A w_A_MINUS w_BBB_PLUS w_BBB w_BBB_MINUS w_BB_PLUS w_BB w_BB_MINUS w_B_PLUS w_B w_B_MINUS w_CCC_PLUS w_CCC w_CCC_MINUS w_CC w_C w_D)), .unset] [])) (fun t k => ?_) ?_
    · show Steps p.tables e below (T2.setTop (mkF m 30 #[.val (.int p0), .val (.int p1), .val (.int ((p0 &&& (2147483647 : Int32)) - ((p0 &&& (2147483647 : Int32)) / (22 : Int32)) * (22 : Int32))), .val (.int ((p1 &&& (2147483647 : Int32)) - ((p1 &&& (2147483647 : Int32)) / (22 : Int32)) * (22 : Int32))), .val (.ref (own_f1_0 ((p0 &&& (2147483647 : Int32)) - ((p0 &&& (2147483647 : Int32)) / (22 : Int32)) * (22 : Int32)) w_AAA w_AA_PLUS w_AA w_AA_MINUS w_A_PLUS w_A w_A_MINUS w_BBB_PLUS w_BBB w_BBB_MINUS w_BB_PLUS w_BB w_BB_MINUS w_B_PLUS w_B w_B_MINUS w_CCC_PLUS w_CCC w_CCC_MINUS w_CC w_C w_D)), .val (.ref (own_f1_0 ((p1 &&& (2147483647 : Int32)) - ((p1 &&& (2147483647 : Int32)) / (22 : Int32)) * (22 : Int32)) w_AAA w_AA_PLUS w_AA w_AA_MINUS w_A_PLUS w_A w_A_MINUS w_BBB_PLUS w_BBB w_BBB_MINUS w_BB_PLUS w_BB w_BB_MINUS w_B_PLUS w_B w_B_MINUS w_CCC_PLUS w_CCC w_CCC_MINUS w_CC w_C w_D)), .unset] [(.int ((p1 &&& (2147483647 : Int32)) - ((p1 &&& (2147483647 : Int32)) / (22 : Int32)) * (22 : Int32))), (.int ((p0 &&& (2147483647 : Int32)) - ((p0 &&& (2147483647 : Int32)) / (22 : Int32)) * (22 : Int32)))])) t
      refine XS.icmpNo X2.here hx rfl (hb hby at_30) rfl (flt hc30).2.2.1 ?_
      show Steps p.tables e below (T2.setTop (mkF m 33 #[.val (.int p0), .val (.int p1), .val (.int ((p0 &&& (2147483647 : Int32)) - ((p0 &&& (2147483647 : Int32)) / (22 : Int32)) * (22 : Int32))), .val (.int ((p1 &&& (2147483647 : Int32)) - ((p1 &&& (2147483647 : Int32)) / (22 : Int32)) * (22 : Int32))), .val (.ref (own_f1_0 ((p0 &&& (2147483647 : Int32)) - ((p0 &&& (2147483647 : Int32)) / (22 : Int32)) * (22 : Int32)) w_AAA w_AA_PLUS w_AA w_AA_MINUS w_A_PLUS w_A w_A_MINUS w_BBB_PLUS w_BBB w_BBB_MINUS w_BB_PLUS w_BB w_BB_MINUS w_B_PLUS w_B w_B_MINUS w_CCC_PLUS w_CCC w_CCC_MINUS w_CC w_C w_D)), .val (.ref (own_f1_0 ((p1 &&& (2147483647 : Int32)) - ((p1 &&& (2147483647 : Int32)) / (22 : Int32)) * (22 : Int32)) w_AAA w_AA_PLUS w_AA w_AA_MINUS w_A_PLUS w_A w_A_MINUS w_BBB_PLUS w_BBB w_BBB_MINUS w_BB_PLUS w_BB w_BB_MINUS w_B_PLUS w_B w_B_MINUS w_CCC_PLUS w_CCC w_CCC_MINUS w_CC w_C w_D)), .unset] [])) t
      exact k
    refine Owe.step (T' := T2) (g' := (mkF m 38 #[.val (.int p0), .val (.int p1), .val (.int ((p0 &&& (2147483647 : Int32)) - ((p0 &&& (2147483647 : Int32)) / (22 : Int32)) * (22 : Int32))), .val (.int ((p1 &&& (2147483647 : Int32)) - ((p1 &&& (2147483647 : Int32)) / (22 : Int32)) * (22 : Int32))), .val (.ref (own_f1_0 ((p0 &&& (2147483647 : Int32)) - ((p0 &&& (2147483647 : Int32)) / (22 : Int32)) * (22 : Int32)) w_AAA w_AA_PLUS w_AA w_AA_MINUS w_A_PLUS w_A w_A_MINUS w_BBB_PLUS w_BBB w_BBB_MINUS w_BB_PLUS w_BB w_BB_MINUS w_B_PLUS w_B w_B_MINUS w_CCC_PLUS w_CCC w_CCC_MINUS w_CC w_C w_D)), .val (.ref (own_f1_0 ((p1 &&& (2147483647 : Int32)) - ((p1 &&& (2147483647 : Int32)) / (22 : Int32)) * (22 : Int32)) w_AAA w_AA_PLUS w_AA w_AA_MINUS w_A_PLUS w_A w_A_MINUS w_BBB_PLUS w_BBB w_BBB_MINUS w_BB_PLUS w_BB w_BB_MINUS w_B_PLUS w_B w_B_MINUS w_CCC_PLUS w_CCC w_CCC_MINUS w_CC w_C w_D)), .unset] [(.int (1 : Int32))])) (fun t k => ?_) ?_
    · show Steps p.tables e below (T2.setTop (mkF m 33 #[.val (.int p0), .val (.int p1), .val (.int ((p0 &&& (2147483647 : Int32)) - ((p0 &&& (2147483647 : Int32)) / (22 : Int32)) * (22 : Int32))), .val (.int ((p1 &&& (2147483647 : Int32)) - ((p1 &&& (2147483647 : Int32)) / (22 : Int32)) * (22 : Int32))), .val (.ref (own_f1_0 ((p0 &&& (2147483647 : Int32)) - ((p0 &&& (2147483647 : Int32)) / (22 : Int32)) * (22 : Int32)) w_AAA w_AA_PLUS w_AA w_AA_MINUS w_A_PLUS w_A w_A_MINUS w_BBB_PLUS w_BBB w_BBB_MINUS w_BB_PLUS w_BB w_BB_MINUS w_B_PLUS w_B w_B_MINUS w_CCC_PLUS w_CCC w_CCC_MINUS w_CC w_C w_D)), .val (.ref (own_f1_0 ((p1 &&& (2147483647 : Int32)) - ((p1 &&& (2147483647 : Int32)) / (22 : Int32)) * (22 : Int32)) w_AAA w_AA_PLUS w_AA w_AA_MINUS w_A_PLUS w_A w_A_MINUS w_BBB_PLUS w_BBB w_BBB_MINUS w_BB_PLUS w_BB w_BB_MINUS w_B_PLUS w_B w_B_MINUS w_CCC_PLUS w_CCC w_CCC_MINUS w_CC w_C w_D)), .unset] [])) t
      refine XS.iconst X2.here hx rfl (hb hby at_33) ?_
      show Steps p.tables e below (T2.setTop (mkF m 34 #[.val (.int p0), .val (.int p1), .val (.int ((p0 &&& (2147483647 : Int32)) - ((p0 &&& (2147483647 : Int32)) / (22 : Int32)) * (22 : Int32))), .val (.int ((p1 &&& (2147483647 : Int32)) - ((p1 &&& (2147483647 : Int32)) / (22 : Int32)) * (22 : Int32))), .val (.ref (own_f1_0 ((p0 &&& (2147483647 : Int32)) - ((p0 &&& (2147483647 : Int32)) / (22 : Int32)) * (22 : Int32)) w_AAA w_AA_PLUS w_AA w_AA_MINUS w_A_PLUS w_A w_A_MINUS w_BBB_PLUS w_BBB w_BBB_MINUS w_BB_PLUS w_BB w_BB_MINUS w_B_PLUS w_B w_B_MINUS w_CCC_PLUS w_CCC w_CCC_MINUS w_CC w_C w_D)), .val (.ref (own_f1_0 ((p1 &&& (2147483647 : Int32)) - ((p1 &&& (2147483647 : Int32)) / (22 : Int32)) * (22 : Int32)) w_AAA w_AA_PLUS w_AA w_AA_MINUS w_A_PLUS w_A w_A_MINUS w_BBB_PLUS w_BBB w_BBB_MINUS w_BB_PLUS w_BB w_BB_MINUS w_B_PLUS w_B w_B_MINUS w_CCC_PLUS w_CCC w_CCC_MINUS w_CC w_C w_D)), .unset] [(.int (1 : Int32))])) t
      refine XS.goto X2.here hx rfl (pc0 := 34) (pc' := 38) rfl (hb hby at_34) (by decide) (by decide) ?_
      show Steps p.tables e below (T2.setTop (mkF m 38 #[.val (.int p0), .val (.int p1), .val (.int ((p0 &&& (2147483647 : Int32)) - ((p0 &&& (2147483647 : Int32)) / (22 : Int32)) * (22 : Int32))), .val (.int ((p1 &&& (2147483647 : Int32)) - ((p1 &&& (2147483647 : Int32)) / (22 : Int32)) * (22 : Int32))), .val (.ref (own_f1_0 ((p0 &&& (2147483647 : Int32)) - ((p0 &&& (2147483647 : Int32)) / (22 : Int32)) * (22 : Int32)) w_AAA w_AA_PLUS w_AA w_AA_MINUS w_A_PLUS w_A w_A_MINUS w_BBB_PLUS w_BBB w_BBB_MINUS w_BB_PLUS w_BB w_BB_MINUS w_B_PLUS w_B w_B_MINUS w_CCC_PLUS w_CCC w_CCC_MINUS w_CC w_C w_D)), .val (.ref (own_f1_0 ((p1 &&& (2147483647 : Int32)) - ((p1 &&& (2147483647 : Int32)) / (22 : Int32)) * (22 : Int32)) w_AAA w_AA_PLUS w_AA w_AA_MINUS w_A_PLUS w_A w_A_MINUS w_BBB_PLUS w_BBB w_BBB_MINUS w_BB_PLUS w_BB w_BB_MINUS w_B_PLUS w_B w_B_MINUS w_CCC_PLUS w_CCC w_CCC_MINUS w_CC w_C w_D)), .unset] [(.int (1 : Int32))])) t
      exact k
    refine Owe.cast (show (own_f0_38 p0 p1 (1 : Int32)) = (1 : Int32) from (show own_f0_0 p0 p1 = (own_f0_38 p0 p1 (1 : Int32)) from (by rw [own_f0_0, if_neg hc30])).symm.trans (own_law p0 p1 )) ?_
    exact j38 T2 _ X2 e2 N2 (1 : Int32)
set_option maxRecDepth 65536 in
set_option maxHeartbeats 40000000 in
theorem comes_1 {Post : Tables → Env → Array Value → State → Outcome → State → Prop} (hpost : ∀ tb e args s v u, (limb_1_1.after args s (.returned v) u = true ∧ limb_1_2.after args s (.returned v) u = true ∧ True) → FrameEnd s (.returned v) u (Jvm.fieldLocs frame_1_writes args s ++ Jvm.arrayLocs frame_1_arrays args s ++ Jvm.staticLocs frame_1_statics s) 0 0 → Post tb e args s (.returned v) u) :
    ArmFor flags0 classFile x code maxLocals ret World_1 tables_1 room_1 Calls_1 rest_1 Pre_1 Post := by
  intro l hfl _ _ p e ha hc hk s m args below hf hA hF happ hP
  obtain ⟨hcalls, hrest, hpre⟩ := hP
  obtain ⟨-, -, -, hnamed, -, -, -, hat⟩ := (Spec.applies_iff hf).mp happ
  obtain ⟨hg, hn⟩ := and_e (Cond.before_iff.mp (show (Jvm.Cond.and given_1 narrow_1).before args s = true from hpre))
  obtain ⟨ga1, gb1⟩ := and_e hg
  obtain ⟨ga2, gb2⟩ := and_e gb1
  obtain ⟨w0, w1, rfl⟩ : ∃ w0 w1 : Value, args = #[w0, w1] := by
    have hs : args.size = 2 := by simpa [Cond.value, given_1] using ga1
    obtain ⟨L⟩ := args
    match L, hs with
    | [w0, w1], _ => exact ⟨w0, w1, rfl⟩
  have hw := fun d (hd : d ∈ tables_1) => atoms_spec (ws := Jvm.Cond.code x code maxLocals ret :: tables_1) hat d (List.mem_cons_of_mem _ hd)
  obtain ⟨i0, ei0⟩ := is_v ga2
  obtain rfl : w0 = (.int i0) := Option.some.inj ei0
  obtain ⟨i1, ei1⟩ := is_v gb2
  obtain rfl : w1 = (.int i1) := Option.some.inj ei1
  obtain ⟨na1, nb1⟩ := and_e hn
  obtain ⟨na2, nb2⟩ := and_e nb1
  obtain ⟨na3, nb3⟩ := and_e nb2
  obtain ⟨na4, nb4⟩ := and_e nb3
  obtain ⟨na5, nb5⟩ := and_e nb4
  obtain ⟨na6, nb6⟩ := and_e nb5
  obtain ⟨na7, nb7⟩ := and_e nb6
  obtain ⟨na8, nb8⟩ := and_e nb7
  obtain ⟨na9, nb9⟩ := and_e nb8
  obtain ⟨na10, nb10⟩ := and_e nb9
  obtain ⟨na11, nb11⟩ := and_e nb10
  obtain ⟨na12, nb12⟩ := and_e nb11
  obtain ⟨na13, nb13⟩ := and_e nb12
  obtain ⟨na14, nb14⟩ := and_e nb13
  obtain ⟨na15, nb15⟩ := and_e nb14
  obtain ⟨na16, nb16⟩ := and_e nb15
  obtain ⟨na17, nb17⟩ := and_e nb16
  obtain ⟨na18, nb18⟩ := and_e nb17
  obtain ⟨na19, nb19⟩ := and_e nb18
  obtain ⟨na20, nb20⟩ := and_e nb19
  obtain ⟨na21, nb21⟩ := and_e nb20
  obtain ⟨na22, nb22⟩ := and_e nb21
  obtain ⟨na23, nb23⟩ := and_e nb22
  obtain ⟨na24, nb24⟩ := and_e nb23
  obtain ⟨na25, nb25⟩ := and_e nb24
  obtain ⟨na26, nb26⟩ := and_e nb25
  obtain ⟨na27, nb27⟩ := and_e nb26
  obtain ⟨na28, nb28⟩ := and_e nb27
  obtain ⟨na29, nb29⟩ := and_e nb28
  obtain ⟨na30, nb30⟩ := and_e nb29
  obtain ⟨na31, nb31⟩ := and_e nb30
  obtain ⟨na32, nb32⟩ := and_e nb31
  obtain ⟨na33, nb33⟩ := and_e nb32
  obtain ⟨na34, nb34⟩ := and_e nb33
  obtain ⟨na35, nb35⟩ := and_e nb34
  obtain ⟨na36, nb36⟩ := and_e nb35
  obtain ⟨na37, nb37⟩ := and_e nb36
  obtain ⟨na38, nb38⟩ := and_e nb37
  obtain ⟨na39, nb39⟩ := and_e nb38
  obtain ⟨na40, nb40⟩ := and_e nb39
  obtain ⟨na41, nb41⟩ := and_e nb40
  obtain ⟨na42, nb42⟩ := and_e nb41
  obtain ⟨na43, nb43⟩ := and_e nb42
  obtain ⟨w_AAA, ev_AAA⟩ := exa_v na1
  have E_AAA := Exa.start ev_AAA na1
  have S_AAA := Sta.start ev_AAA (Or.inr ⟨(hw _ (List.mem_of_getElem? (i := 6) rfl)), (hw _ (List.mem_of_getElem? (i := 7) rfl))⟩)
  obtain ⟨w_AA_MINUS, ev_AA_MINUS⟩ := exa_v na2
  have E_AA_MINUS := Exa.start ev_AA_MINUS na2
  have S_AA_MINUS := Sta.start ev_AA_MINUS (Or.inr ⟨(hw _ (List.mem_of_getElem? (i := 6) rfl)), (hw _ (List.mem_of_getElem? (i := 9) rfl))⟩)
  obtain ⟨w_B, ev_B⟩ := exa_v na5
  have E_B := Exa.start ev_B na5
  have S_B := Sta.start ev_B (Or.inr ⟨(hw _ (List.mem_of_getElem? (i := 6) rfl)), (hw _ (List.mem_of_getElem? (i := 25) rfl))⟩)
  obtain ⟨w_AA_PLUS, ev_AA_PLUS⟩ := exa_v na6
  have E_AA_PLUS := Exa.start ev_AA_PLUS na6
  have S_AA_PLUS := Sta.start ev_AA_PLUS (Or.inr ⟨(hw _ (List.mem_of_getElem? (i := 6) rfl)), (hw _ (List.mem_of_getElem? (i := 27) rfl))⟩)
  obtain ⟨w_C, ev_C⟩ := exa_v na9
  have E_C := Exa.start ev_C na9
  have S_C := Sta.start ev_C (Or.inr ⟨(hw _ (List.mem_of_getElem? (i := 6) rfl)), (hw _ (List.mem_of_getElem? (i := 29) rfl))⟩)
  obtain ⟨w_D, ev_D⟩ := exa_v na10
  have E_D := Exa.start ev_D na10
  have S_D := Sta.start ev_D (Or.inr ⟨(hw _ (List.mem_of_getElem? (i := 6) rfl)), (hw _ (List.mem_of_getElem? (i := 31) rfl))⟩)
  obtain ⟨w_BB_PLUS, ev_BB_PLUS⟩ := exa_v na13
  have E_BB_PLUS := Exa.start ev_BB_PLUS na13
  have S_BB_PLUS := Sta.start ev_BB_PLUS (Or.inr ⟨(hw _ (List.mem_of_getElem? (i := 6) rfl)), (hw _ (List.mem_of_getElem? (i := 33) rfl))⟩)
  obtain ⟨w_A, ev_A⟩ := exa_v na15
  have E_A := Exa.start ev_A na15
  have S_A := Sta.start ev_A (Or.inr ⟨(hw _ (List.mem_of_getElem? (i := 6) rfl)), (hw _ (List.mem_of_getElem? (i := 35) rfl))⟩)
  obtain ⟨w_B_PLUS, ev_B_PLUS⟩ := exa_v na16
  have E_B_PLUS := Exa.start ev_B_PLUS na16
  have S_B_PLUS := Sta.start ev_B_PLUS (Or.inr ⟨(hw _ (List.mem_of_getElem? (i := 6) rfl)), (hw _ (List.mem_of_getElem? (i := 37) rfl))⟩)
  obtain ⟨w_A_MINUS, ev_A_MINUS⟩ := exa_v na19
  have E_A_MINUS := Exa.start ev_A_MINUS na19
  have S_A_MINUS := Sta.start ev_A_MINUS (Or.inr ⟨(hw _ (List.mem_of_getElem? (i := 6) rfl)), (hw _ (List.mem_of_getElem? (i := 39) rfl))⟩)
  obtain ⟨w_BBB, ev_BBB⟩ := exa_v na21
  have E_BBB := Exa.start ev_BBB na21
  have S_BBB := Sta.start ev_BBB (Or.inr ⟨(hw _ (List.mem_of_getElem? (i := 6) rfl)), (hw _ (List.mem_of_getElem? (i := 41) rfl))⟩)
  obtain ⟨w_BB_MINUS, ev_BB_MINUS⟩ := exa_v na23
  have E_BB_MINUS := Exa.start ev_BB_MINUS na23
  have S_BB_MINUS := Sta.start ev_BB_MINUS (Or.inr ⟨(hw _ (List.mem_of_getElem? (i := 6) rfl)), (hw _ (List.mem_of_getElem? (i := 43) rfl))⟩)
  obtain ⟨w_BBB_MINUS, ev_BBB_MINUS⟩ := exa_v na25
  have E_BBB_MINUS := Exa.start ev_BBB_MINUS na25
  have S_BBB_MINUS := Sta.start ev_BBB_MINUS (Or.inr ⟨(hw _ (List.mem_of_getElem? (i := 6) rfl)), (hw _ (List.mem_of_getElem? (i := 45) rfl))⟩)
  obtain ⟨w_BB, ev_BB⟩ := exa_v na27
  have E_BB := Exa.start ev_BB na27
  have S_BB := Sta.start ev_BB (Or.inr ⟨(hw _ (List.mem_of_getElem? (i := 6) rfl)), (hw _ (List.mem_of_getElem? (i := 47) rfl))⟩)
  obtain ⟨w_CC, ev_CC⟩ := exa_v na29
  have E_CC := Exa.start ev_CC na29
  have S_CC := Sta.start ev_CC (Or.inr ⟨(hw _ (List.mem_of_getElem? (i := 6) rfl)), (hw _ (List.mem_of_getElem? (i := 49) rfl))⟩)
  obtain ⟨w_AA, ev_AA⟩ := exa_v na31
  have E_AA := Exa.start ev_AA na31
  have S_AA := Sta.start ev_AA (Or.inr ⟨(hw _ (List.mem_of_getElem? (i := 6) rfl)), (hw _ (List.mem_of_getElem? (i := 51) rfl))⟩)
  obtain ⟨w_BBB_PLUS, ev_BBB_PLUS⟩ := exa_v na33
  have E_BBB_PLUS := Exa.start ev_BBB_PLUS na33
  have S_BBB_PLUS := Sta.start ev_BBB_PLUS (Or.inr ⟨(hw _ (List.mem_of_getElem? (i := 6) rfl)), (hw _ (List.mem_of_getElem? (i := 53) rfl))⟩)
  obtain ⟨w_CCC_PLUS, ev_CCC_PLUS⟩ := exa_v na35
  have E_CCC_PLUS := Exa.start ev_CCC_PLUS na35
  have S_CCC_PLUS := Sta.start ev_CCC_PLUS (Or.inr ⟨(hw _ (List.mem_of_getElem? (i := 6) rfl)), (hw _ (List.mem_of_getElem? (i := 55) rfl))⟩)
  obtain ⟨w_A_PLUS, ev_A_PLUS⟩ := exa_v na37
  have E_A_PLUS := Exa.start ev_A_PLUS na37
  have S_A_PLUS := Sta.start ev_A_PLUS (Or.inr ⟨(hw _ (List.mem_of_getElem? (i := 6) rfl)), (hw _ (List.mem_of_getElem? (i := 57) rfl))⟩)
  obtain ⟨w_B_MINUS, ev_B_MINUS⟩ := exa_v na39
  have E_B_MINUS := Exa.start ev_B_MINUS na39
  have S_B_MINUS := Sta.start ev_B_MINUS (Or.inr ⟨(hw _ (List.mem_of_getElem? (i := 6) rfl)), (hw _ (List.mem_of_getElem? (i := 59) rfl))⟩)
  obtain ⟨w_CCC_MINUS, ev_CCC_MINUS⟩ := exa_v na41
  have E_CCC_MINUS := Exa.start ev_CCC_MINUS na41
  have S_CCC_MINUS := Sta.start ev_CCC_MINUS (Or.inr ⟨(hw _ (List.mem_of_getElem? (i := 6) rfl)), (hw _ (List.mem_of_getElem? (i := 61) rfl))⟩)
  obtain ⟨w_CCC, ev_CCC⟩ := exa_v na43
  have E_CCC := Exa.start ev_CCC na43
  have S_CCC := Sta.start ev_CCC (Or.inr ⟨(hw _ (List.mem_of_getElem? (i := 6) rfl)), (hw _ (List.mem_of_getElem? (i := 63) rfl))⟩)
  have F_AAA_ordinal := own_fldI ev_AAA na3
  have F_AA_MINUS_ordinal := own_fldI ev_AA_MINUS na4
  have F_B_ordinal := own_fldI ev_B na7
  have F_AA_PLUS_ordinal := own_fldI ev_AA_PLUS na8
  have F_C_ordinal := own_fldI ev_C na11
  have F_D_ordinal := own_fldI ev_D na12
  have F_BB_PLUS_ordinal := own_fldI ev_BB_PLUS na14
  have F_A_ordinal := own_fldI ev_A na17
  have F_B_PLUS_ordinal := own_fldI ev_B_PLUS na18
  have F_A_MINUS_ordinal := own_fldI ev_A_MINUS na20
  have F_BBB_ordinal := own_fldI ev_BBB na22
  have F_BB_MINUS_ordinal := own_fldI ev_BB_MINUS na24
  have F_BBB_MINUS_ordinal := own_fldI ev_BBB_MINUS na26
  have F_BB_ordinal := own_fldI ev_BB na28
  have F_CC_ordinal := own_fldI ev_CC na30
  have F_AA_ordinal := own_fldI ev_AA na32
  have F_BBB_PLUS_ordinal := own_fldI ev_BBB_PLUS na34
  have F_CCC_PLUS_ordinal := own_fldI ev_CCC_PLUS na36
  have F_A_PLUS_ordinal := own_fldI ev_A_PLUS na38
  have F_B_MINUS_ordinal := own_fldI ev_B_MINUS na40
  have F_CCC_MINUS_ordinal := own_fldI ev_CCC_MINUS na42
  have F_CCC_ordinal := own_fldI ev_CCC nb43
  obtain ⟨n, o, h1, h2, h3, _, L, rfl, ⟨rfl, N⟩, hq⟩ := own_rm0 l s _ hw tables_1 i0 i1 w_AAA w_AA_PLUS w_AA w_AA_MINUS w_A_PLUS w_A w_A_MINUS w_BBB_PLUS w_BBB w_BBB_MINUS w_BB_PLUS w_BB w_BB_MINUS w_B_PLUS w_B w_B_MINUS w_CCC_PLUS w_CCC w_CCC_MINUS w_CC w_C w_D s.heap s.heap.size (Nat.le_refl _) S_AAA S_AA_PLUS S_AA S_AA_MINUS S_A_PLUS S_A S_A_MINUS S_BBB_PLUS S_BBB S_BBB_MINUS S_BB_PLUS S_BB S_BB_MINUS S_B_PLUS S_B S_B_MINUS S_CCC_PLUS S_CCC S_CCC_MINUS S_CC S_C S_D ⟨E_AAA, E_AA_PLUS, E_AA, E_AA_MINUS, E_A_PLUS, E_A, E_A_MINUS, E_BBB_PLUS, E_BBB, E_BBB_MINUS, E_BB_PLUS, E_BB, E_BB_MINUS, E_B_PLUS, E_B, E_B_MINUS, E_CCC_PLUS, E_CCC, E_CCC_MINUS, E_CC, E_C, E_D, F_AAA_ordinal, F_AA_PLUS_ordinal, F_AA_ordinal, F_AA_MINUS_ordinal, F_A_PLUS_ordinal, F_A_ordinal, F_A_MINUS_ordinal, F_BBB_PLUS_ordinal, F_BBB_ordinal, F_BBB_MINUS_ordinal, F_BB_PLUS_ordinal, F_BB_ordinal, F_BB_MINUS_ordinal, F_B_PLUS_ordinal, F_B_ordinal, F_B_MINUS_ordinal, F_CCC_PLUS_ordinal, F_CCC_ordinal, F_CCC_MINUS_ordinal, F_CC_ordinal, F_C_ordinal, F_D_ordinal⟩ p e ha hc hk s m _ below hf ((Spec.applies_iff_loose hf).mp happ).1 ⟨rfl, State.Warmed39.refl s, rfl⟩ trivial
  refine ⟨n, _, h1, h2, h3, hpost _ _ _ _ _ _ ⟨Cond.after_iff.mpr rfl, Cond.after_iff.mpr (eq_i res_at (Term.int_eval (1)) rfl), trivial⟩ ⟨hq.1, hq.2.1, (hq.2.2.sift fun y hy => Or.inr (N y hy)).mono (by decide) (by decide)⟩⟩
theorem main_1_1 : Claimed_1_1 := comes_1 fun _ _ _ _ _ _ h hF => ⟨h.1, hF⟩
theorem main_1_2 : Claimed_1_2 := comes_1 fun _ _ _ _ _ _ h hF => ⟨h.2.1, hF⟩
end Jvm.Pilot.@@N@@
namespace Jvm.Pilot.@@N@@
open Jvm Jvm.ClassFile Sem Op Lib Jvm.Free Jvm.Stand Jvm.Pilot.@@N@@.Jvm.D
/-! MADE BY PROGRAM (witnessworld.py) out of the Statement's table words and the real class files: 13 classes; the members and pool entries that the words name. The judged class is class 1, her method 2. -/
namespace start1
open Jvm.ClassFile
def u (s : String) : CpInfo := .utf8 (stringToUtf16 s)
/-- a pool by its gaps: so many unusable entries, then the entry; so many at the end -/
def gap : Nat → List CpInfo → List CpInfo
  | 0, r => r
  | n + 1, r => .unusable :: gap n r
def poolList (es : List (Nat × CpInfo)) (last : Nat) : List CpInfo := es.foldr (fun e r => gap e.1 (e.2 :: r)) (gap last [])
def pool (es : List (Nat × CpInfo)) (last : Nat) : Array CpInfo := ⟨poolList es last⟩
def fileOf (pool : Array CpInfo) (this : Nat) (attrs : Array Attribute := #[]) (ms : Array MethodInfo := #[]) (fl : Nat := 33) (sup : Nat := 0) (ifs : Array Nat := #[]) (fds : Array FieldInfo := #[]) : ClassFile where
  minorVersion := 0
  majorVersion := 65
  constantPool := pool
  accessFlags := fl
  thisClass := this
  superClass := sup
  interfaces := ifs
  fields := fds
  methods := ms
  attributes := attrs
def plain (name : String) (sup : Option ClassId) : Class where
  name := name
  kind := .ordinary
  loader := none
  accessFlags := 33
  super := sup
  interfaces := #[]
  cf := none
  fields := #[]
  methods := #[]
  instanceTypes := #[]
  staticTypes := #[]
  resolved := #[]
  callSites := []
  init := .initialized
  statics := none
  mirror := none

def pool0 : Array CpInfo := pool [(5, u "<init>"), (0, u "()V"), (1, .class_ 10), (1, u "java/lang/Object")] 113

def k0m0 : Method := { name := "<init>", desc := "()V", sig := { parameters := [], returnType := none }, accessFlags := 1, code := none }
/-- java/lang/Object -/
def k0 : Class := { plain "java/lang/Object" none with
  accessFlags := 33
  interfaces := #[]
  cf := some (fileOf pool0 8 #[] #[{ accessFlags := 1, nameIndex := 5, descriptorIndex := 6, attributes := #[] }] 33 0 #[] #[])
  fields := #[]
  methods := #[k0m0]
  instanceTypes := #[]
  staticTypes := #[]
  resolved := Array.replicate 124 none
  statics := none }

def pool1 : Array CpInfo := pool [(2, .class_ 4), (1, u "java/lang/Object"), (0, u "<init>"), (0, u "()V"), (0, .fieldref 8 9), (0, .class_ 10), (0, .nameAndType 11 12), (0, u "com/example/swapscribe/swapscribe/trs/SAndPRating"), (0, u "AAA"), (0, u "Lcom/example/swapscribe/swapscribe/trs/SAndPRating;"), (0, .fieldref 8 14), (0, .nameAndType 15 12), (0, u "AA_PLUS"), (0, .fieldref 8 17), (0, .nameAndType 18 12), (0, u "AA"), (0, .fieldref 8 20), (0, .nameAndType 21 12), (0, u "AA_MINUS"), (0, .fieldref 8 23), (0, .nameAndType 24 12), (0, u "A_PLUS"), (0, .fieldref 8 26), (0, .nameAndType 27 12), (0, u "A"), (0, .fieldref 8 29), (0, .nameAndType 30 12), (0, u "A_MINUS"), (0, .fieldref 8 32), (0, .nameAndType 33 12), (0, u "BBB_PLUS"), (0, .fieldref 8 35), (0, .nameAndType 36 12), (0, u "BBB"), (0, .fieldref 8 38), (0, .nameAndType 39 12), (0, u "BBB_MINUS"), (0, .fieldref 8 41), (0, .nameAndType 42 12), (0, u "BB_PLUS"), (0, .fieldref 8 44), (0, .nameAndType 45 12), (0, u "BB"), (0, .fieldref 8 47), (0, .nameAndType 48 12), (0, u "BB_MINUS"), (0, .fieldref 8 50), (0, .nameAndType 51 12), (0, u "B_PLUS"), (0, .fieldref 8 53), (0, .nameAndType 54 12), (0, u "B"), (0, .fieldref 8 56), (0, .nameAndType 57 12), (0, u "B_MINUS"), (0, .fieldref 8 59), (0, .nameAndType 60 12), (0, u "CCC_PLUS"), (0, .fieldref 8 62), (0, .nameAndType 63 12), (0, u "CCC"), (0, .fieldref 8 65), (0, .nameAndType 66 12), (0, u "CCC_MINUS"), (0, .fieldref 8 68), (0, .nameAndType 69 12), (0, u "CC"), (0, .fieldref 8 71), (0, .nameAndType 72 12), (0, u "C"), (0, .fieldref 8 74), (0, .nameAndType 75 12), (0, u "D"), (0, .integer 2147483647), (0, .methodref 78 79), (0, .class_ 80), (0, .nameAndType 81 82), (0, u "com/example/swapscribe/swapscribe/trs/SAndPRatingIsAtLeastPinLaw"), (0, u "atRank"), (0, u "(I)Lcom/example/swapscribe/swapscribe/trs/SAndPRating;"), (0, .methodref 8 84), (0, .nameAndType 85 86), (0, u "isAtLeast"), (0, u "(Lcom/example/swapscribe/swapscribe/trs/SAndPRating;)Z"), (3, u "law"), (0, u "(II)Z")] 2

def k1m0 : Method := { name := "<init>", desc := "()V", sig := { parameters := [], returnType := none }, accessFlags := 2, code := none }
def k1c1 : Code := { maxStack := 1, maxLocals := 1, code := method_2_code, exceptionTable := #[], attributes := #[] }
def k1m1 : Method := { name := "atRank", desc := "(I)Lcom/example/swapscribe/swapscribe/trs/SAndPRating;", sig := { parameters := [.int], returnType := some (.object "com/example/swapscribe/swapscribe/trs/SAndPRating") }, accessFlags := 10, code := some k1c1 }
def k1c2 : Code := { maxStack := 2, maxLocals := 7, code := code, exceptionTable := #[], attributes := #[] }
def k1m2 : Method := { name := "law", desc := "(II)Z", sig := { parameters := [.int, .int], returnType := some .boolean }, accessFlags := 9, code := some k1c2 }
/-- com/example/swapscribe/swapscribe/trs/SAndPRatingIsAtLeastPinLaw -/
def k1 : Class := { plain "com/example/swapscribe/swapscribe/trs/SAndPRatingIsAtLeastPinLaw" (some 0) with
  accessFlags := 49
  interfaces := #[]
  cf := some (fileOf pool1 78 #[] #[{ accessFlags := 2, nameIndex := 5, descriptorIndex := 6, attributes := #[] }, { accessFlags := 10, nameIndex := 81, descriptorIndex := 82, attributes := #[] }, { accessFlags := 9, nameIndex := 90, descriptorIndex := 91, attributes := #[] }] 49 2 #[] #[])
  fields := #[]
  methods := #[k1m0, k1m1, k1m2]
  instanceTypes := #[]
  staticTypes := #[]
  resolved := Array.replicate 94 none
  statics := none }

def pool2 : Array CpInfo := pool [(1, .class_ 2), (0, u "java/lang/constant/Constable"), (0, .class_ 4), (0, u "java/lang/Object")] 6

/-- java/lang/constant/Constable -/
def k2 : Class := { plain "java/lang/constant/Constable" (some 0) with
  accessFlags := 1537
  interfaces := #[]
  cf := some (fileOf pool2 1 #[] #[] 1537 3 #[] #[])
  fields := #[]
  methods := #[]
  instanceTypes := #[]
  staticTypes := #[]
  resolved := Array.replicate 11 none
  statics := none }

def pool3 : Array CpInfo := pool [(1, .class_ 2), (0, u "java/lang/Comparable"), (0, .class_ 4), (0, u "java/lang/Object")] 7

/-- java/lang/Comparable -/
def k3 : Class := { plain "java/lang/Comparable" (some 0) with
  accessFlags := 1537
  interfaces := #[]
  cf := some (fileOf pool3 1 #[] #[] 1537 3 #[] #[])
  fields := #[]
  methods := #[]
  instanceTypes := #[]
  staticTypes := #[]
  resolved := Array.replicate 12 none
  statics := none }

def pool4 : Array CpInfo := pool [(1, .class_ 2), (0, u "java/io/Serializable"), (0, .class_ 4), (0, u "java/lang/Object")] 2

/-- java/io/Serializable -/
def k4 : Class := { plain "java/io/Serializable" (some 0) with
  accessFlags := 1537
  interfaces := #[]
  cf := some (fileOf pool4 1 #[] #[] 1537 3 #[] #[])
  fields := #[]
  methods := #[]
  instanceTypes := #[]
  staticTypes := #[]
  resolved := Array.replicate 7 none
  statics := none }

def pool5 : Array CpInfo := pool [(2, .class_ 4), (1, u "java/lang/Enum"), (0, u "name"), (0, u "Ljava/lang/String;"), (0, .fieldref 2 8), (0, .nameAndType 9 10), (0, u "ordinal"), (0, u "I"), (1, .class_ 14), (1, u "java/lang/Object"), (4, u "hash"), (86, .class_ 108), (1, u "java/lang/Enum$EnumDesc"), (2, .class_ 112), (0, u "java/lang/constant/Constable"), (0, .class_ 114), (0, u "java/lang/Comparable"), (0, .class_ 116), (0, u "java/io/Serializable"), (9, u "()I")] 77

def k5c0 : Code := { maxStack := 1, maxLocals := 1, code := jdk_37_method_2_code, exceptionTable := #[], attributes := #[] }
def k5m0 : Method := { name := "ordinal", desc := "()I", sig := { parameters := [], returnType := some .int }, accessFlags := 17, code := some k5c0 }
/-- java/lang/Enum -/
def k5 : Class := { plain "java/lang/Enum" (some 0) with
  accessFlags := 1057
  interfaces := #[2, 3, 4]
  cf := some (fileOf pool5 2 #[.nestMembers #[106]] #[{ accessFlags := 17, nameIndex := 9, descriptorIndex := 126, attributes := #[] }] 1057 12 #[111, 113, 115] #[{ accessFlags := 18, nameIndex := 5, descriptorIndex := 6, attributes := #[] }, { accessFlags := 18, nameIndex := 9, descriptorIndex := 10, attributes := #[] }, { accessFlags := 2, nameIndex := 19, descriptorIndex := 10, attributes := #[] }])
  fields := #[{ name := "name", type := (.object "java/lang/String"), accessFlags := 18, slot := 0, constantValue := 0 }, { name := "ordinal", type := .int, accessFlags := 18, slot := 1, constantValue := 0 }, { name := "hash", type := .int, accessFlags := 2, slot := 2, constantValue := 0 }]
  methods := #[k5m0]
  instanceTypes := #[(.object "java/lang/String"), .int, .int]
  staticTypes := #[]
  resolved := Array.replicate 204 none
  statics := none }

def pool6 : Array CpInfo := pool [(8, .class_ 10), (1, u "com/example/swapscribe/swapscribe/input/Coded"), (61, .class_ 73), (0, u "java/lang/Object")] 28

/-- com/example/swapscribe/swapscribe/input/Coded -/
def k6 : Class := { plain "com/example/swapscribe/swapscribe/input/Coded" (some 0) with
  accessFlags := 1537
  interfaces := #[]
  cf := some (fileOf pool6 8 #[] #[] 1537 72 #[] #[])
  fields := #[]
  methods := #[]
  instanceTypes := #[]
  staticTypes := #[]
  resolved := Array.replicate 102 none
  statics := none }

def pool7 : Array CpInfo := pool [(1, .class_ 2), (0, u "com/example/swapscribe/swapscribe/trs/SAndPRating"), (2, u "AAA"), (0, u "Lcom/example/swapscribe/swapscribe/trs/SAndPRating;"), (2, u "AA_PLUS"), (2, u "AA"), (2, u "AA_MINUS"), (2, u "A_PLUS"), (2, u "A"), (2, u "A_MINUS"), (2, u "BBB_PLUS"), (2, u "BBB"), (2, u "BBB_MINUS"), (2, u "BB_PLUS"), (2, u "BB"), (2, u "BB_MINUS"), (2, u "B_PLUS"), (2, u "B"), (2, u "B_MINUS"), (2, u "CCC_PLUS"), (2, u "CCC"), (2, u "CCC_MINUS"), (2, u "CC"), (2, u "C"), (2, u "D"), (2, u "$VALUES"), (0, u "[Lcom/example/swapscribe/swapscribe/trs/SAndPRating;"), (6, .class_ 82), (1, u "java/lang/Enum"), (8, u "code"), (0, u "Ljava/lang/String;"), (0, .methodref 1 94), (0, .nameAndType 95 96), (0, u "ordinal"), (0, u "()I"), (53, .class_ 151), (0, u "com/example/swapscribe/swapscribe/input/Coded"), (8, u "isAtLeast"), (0, u "(Lcom/example/swapscribe/swapscribe/trs/SAndPRating;)Z")] 6

def k7c0 : Code := { maxStack := 2, maxLocals := 2, code := prog_29_method_5_code, exceptionTable := #[], attributes := #[] }
def k7m0 : Method := { name := "isAtLeast", desc := "(Lcom/example/swapscribe/swapscribe/trs/SAndPRating;)Z", sig := { parameters := [(.object "com/example/swapscribe/swapscribe/trs/SAndPRating")], returnType := some .boolean }, accessFlags := 1, code := some k7c0 }
/-- com/example/swapscribe/swapscribe/trs/SAndPRating -/
def k7 : Class := { plain "com/example/swapscribe/swapscribe/trs/SAndPRating" (some 5) with
  accessFlags := 16433
  interfaces := #[6]
  cf := some (fileOf pool7 1 #[] #[{ accessFlags := 1, nameIndex := 160, descriptorIndex := 161, attributes := #[] }] 16433 80 #[150] #[{ accessFlags := 16409, nameIndex := 5, descriptorIndex := 6, attributes := #[] }, { accessFlags := 16409, nameIndex := 9, descriptorIndex := 6, attributes := #[] }, { accessFlags := 16409, nameIndex := 12, descriptorIndex := 6, attributes := #[] }, { accessFlags := 16409, nameIndex := 15, descriptorIndex := 6, attributes := #[] }, { accessFlags := 16409, nameIndex := 18, descriptorIndex := 6, attributes := #[] }, { accessFlags := 16409, nameIndex := 21, descriptorIndex := 6, attributes := #[] }, { accessFlags := 16409, nameIndex := 24, descriptorIndex := 6, attributes := #[] }, { accessFlags := 16409, nameIndex := 27, descriptorIndex := 6, attributes := #[] }, { accessFlags := 16409, nameIndex := 30, descriptorIndex := 6, attributes := #[] }, { accessFlags := 16409, nameIndex := 33, descriptorIndex := 6, attributes := #[] }, { accessFlags := 16409, nameIndex := 36, descriptorIndex := 6, attributes := #[] }, { accessFlags := 16409, nameIndex := 39, descriptorIndex := 6, attributes := #[] }, { accessFlags := 16409, nameIndex := 42, descriptorIndex := 6, attributes := #[] }, { accessFlags := 16409, nameIndex := 45, descriptorIndex := 6, attributes := #[] }, { accessFlags := 16409, nameIndex := 48, descriptorIndex := 6, attributes := #[] }, { accessFlags := 16409, nameIndex := 51, descriptorIndex := 6, attributes := #[] }, { accessFlags := 16409, nameIndex := 54, descriptorIndex := 6, attributes := #[] }, { accessFlags := 16409, nameIndex := 57, descriptorIndex := 6, attributes := #[] }, { accessFlags := 16409, nameIndex := 60, descriptorIndex := 6, attributes := #[] }, { accessFlags := 16409, nameIndex := 63, descriptorIndex := 6, attributes := #[] }, { accessFlags := 16409, nameIndex := 66, descriptorIndex := 6, attributes := #[] }, { accessFlags := 16409, nameIndex := 69, descriptorIndex := 6, attributes := #[] }, { accessFlags := 18, nameIndex := 91, descriptorIndex := 92, attributes := #[] }, { accessFlags := 4122, nameIndex := 72, descriptorIndex := 73, attributes := #[] }])
  fields := #[{ name := "AAA", type := (.object "com/example/swapscribe/swapscribe/trs/SAndPRating"), accessFlags := 16409, slot := 0, constantValue := 0 }, { name := "AA_PLUS", type := (.object "com/example/swapscribe/swapscribe/trs/SAndPRating"), accessFlags := 16409, slot := 1, constantValue := 0 }, { name := "AA", type := (.object "com/example/swapscribe/swapscribe/trs/SAndPRating"), accessFlags := 16409, slot := 2, constantValue := 0 }, { name := "AA_MINUS", type := (.object "com/example/swapscribe/swapscribe/trs/SAndPRating"), accessFlags := 16409, slot := 3, constantValue := 0 }, { name := "A_PLUS", type := (.object "com/example/swapscribe/swapscribe/trs/SAndPRating"), accessFlags := 16409, slot := 4, constantValue := 0 }, { name := "A", type := (.object "com/example/swapscribe/swapscribe/trs/SAndPRating"), accessFlags := 16409, slot := 5, constantValue := 0 }, { name := "A_MINUS", type := (.object "com/example/swapscribe/swapscribe/trs/SAndPRating"), accessFlags := 16409, slot := 6, constantValue := 0 }, { name := "BBB_PLUS", type := (.object "com/example/swapscribe/swapscribe/trs/SAndPRating"), accessFlags := 16409, slot := 7, constantValue := 0 }, { name := "BBB", type := (.object "com/example/swapscribe/swapscribe/trs/SAndPRating"), accessFlags := 16409, slot := 8, constantValue := 0 }, { name := "BBB_MINUS", type := (.object "com/example/swapscribe/swapscribe/trs/SAndPRating"), accessFlags := 16409, slot := 9, constantValue := 0 }, { name := "BB_PLUS", type := (.object "com/example/swapscribe/swapscribe/trs/SAndPRating"), accessFlags := 16409, slot := 10, constantValue := 0 }, { name := "BB", type := (.object "com/example/swapscribe/swapscribe/trs/SAndPRating"), accessFlags := 16409, slot := 11, constantValue := 0 }, { name := "BB_MINUS", type := (.object "com/example/swapscribe/swapscribe/trs/SAndPRating"), accessFlags := 16409, slot := 12, constantValue := 0 }, { name := "B_PLUS", type := (.object "com/example/swapscribe/swapscribe/trs/SAndPRating"), accessFlags := 16409, slot := 13, constantValue := 0 }, { name := "B", type := (.object "com/example/swapscribe/swapscribe/trs/SAndPRating"), accessFlags := 16409, slot := 14, constantValue := 0 }, { name := "B_MINUS", type := (.object "com/example/swapscribe/swapscribe/trs/SAndPRating"), accessFlags := 16409, slot := 15, constantValue := 0 }, { name := "CCC_PLUS", type := (.object "com/example/swapscribe/swapscribe/trs/SAndPRating"), accessFlags := 16409, slot := 16, constantValue := 0 }, { name := "CCC", type := (.object "com/example/swapscribe/swapscribe/trs/SAndPRating"), accessFlags := 16409, slot := 17, constantValue := 0 }, { name := "CCC_MINUS", type := (.object "com/example/swapscribe/swapscribe/trs/SAndPRating"), accessFlags := 16409, slot := 18, constantValue := 0 }, { name := "CC", type := (.object "com/example/swapscribe/swapscribe/trs/SAndPRating"), accessFlags := 16409, slot := 19, constantValue := 0 }, { name := "C", type := (.object "com/example/swapscribe/swapscribe/trs/SAndPRating"), accessFlags := 16409, slot := 20, constantValue := 0 }, { name := "D", type := (.object "com/example/swapscribe/swapscribe/trs/SAndPRating"), accessFlags := 16409, slot := 21, constantValue := 0 }, { name := "code", type := (.object "java/lang/String"), accessFlags := 18, slot := 3, constantValue := 0 }, { name := "$VALUES", type := (.array (.object "com/example/swapscribe/swapscribe/trs/SAndPRating")), accessFlags := 4122, slot := 22, constantValue := 0 }]
  methods := #[k7m0]
  instanceTypes := #[(.object "java/lang/String"), .int, .int, (.object "java/lang/String")]
  staticTypes := #[(.object "com/example/swapscribe/swapscribe/trs/SAndPRating"), (.object "com/example/swapscribe/swapscribe/trs/SAndPRating"), (.object "com/example/swapscribe/swapscribe/trs/SAndPRating"), (.object "com/example/swapscribe/swapscribe/trs/SAndPRating"), (.object "com/example/swapscribe/swapscribe/trs/SAndPRating"), (.object "com/example/swapscribe/swapscribe/trs/SAndPRating"), (.object "com/example/swapscribe/swapscribe/trs/SAndPRating"), (.object "com/example/swapscribe/swapscribe/trs/SAndPRating"), (.object "com/example/swapscribe/swapscribe/trs/SAndPRating"), (.object "com/example/swapscribe/swapscribe/trs/SAndPRating"), (.object "com/example/swapscribe/swapscribe/trs/SAndPRating"), (.object "com/example/swapscribe/swapscribe/trs/SAndPRating"), (.object "com/example/swapscribe/swapscribe/trs/SAndPRating"), (.object "com/example/swapscribe/swapscribe/trs/SAndPRating"), (.object "com/example/swapscribe/swapscribe/trs/SAndPRating"), (.object "com/example/swapscribe/swapscribe/trs/SAndPRating"), (.object "com/example/swapscribe/swapscribe/trs/SAndPRating"), (.object "com/example/swapscribe/swapscribe/trs/SAndPRating"), (.object "com/example/swapscribe/swapscribe/trs/SAndPRating"), (.object "com/example/swapscribe/swapscribe/trs/SAndPRating"), (.object "com/example/swapscribe/swapscribe/trs/SAndPRating"), (.object "com/example/swapscribe/swapscribe/trs/SAndPRating"), (.array (.object "com/example/swapscribe/swapscribe/trs/SAndPRating"))]
  resolved := Array.replicate 168 none
  statics := some 0 }

def pool8 : Array CpInfo := pool [(1, u "java/lang/Cloneable"), (0, .class_ 1), (0, u "java/lang/Object"), (0, .class_ 3)] 3

/-- java/lang/Cloneable -/
def k8 : Class := { plain "java/lang/Cloneable" (some 0) with
  accessFlags := 1537
  interfaces := #[]
  cf := some (fileOf pool8 2 #[] #[] 1537 4 #[] #[])
  fields := #[]
  methods := #[]
  instanceTypes := #[]
  staticTypes := #[]
  resolved := Array.replicate 8 none
  statics := none }

/-- the primitive byte -/
def k9 : Class := { plain "byte" none with kind := .primitive 'B', accessFlags := 0x411 }
/-- [B -/
def k10 : Class := { plain "[B" (some 0) with kind := .array 9 .byte, interfaces := #[8, 4], accessFlags := 1041 }

/-- the primitive int -/
def k11 : Class := { plain "int" none with kind := .primitive 'I', accessFlags := 0x411 }
/-- [I -/
def k12 : Class := { plain "[I" (some 0) with kind := .array 11 .int, interfaces := #[8, 4], accessFlags := 1041 }

def heap : Heap := #[{ cls := 7, slots := #[.ref 1, .ref 2, .ref 3, .ref 4, .ref 5, .ref 6, .ref 7, .ref 8, .ref 9, .ref 10, .ref 11, .ref 12, .ref 13, .ref 14, .ref 15, .ref 16, .ref 17, .ref 18, .ref 19, .ref 20, .ref 21, .ref 22, .null], vm := .statics 7 },
  { cls := 7, slots := #[.null, .int 0, .int 0, .null], vm := .none },
  { cls := 7, slots := #[.null, .int 1, .int 0, .null], vm := .none },
  { cls := 7, slots := #[.null, .int 2, .int 0, .null], vm := .none },
  { cls := 7, slots := #[.null, .int 3, .int 0, .null], vm := .none },
  { cls := 7, slots := #[.null, .int 4, .int 0, .null], vm := .none },
  { cls := 7, slots := #[.null, .int 5, .int 0, .null], vm := .none },
  { cls := 7, slots := #[.null, .int 6, .int 0, .null], vm := .none },
  { cls := 7, slots := #[.null, .int 7, .int 0, .null], vm := .none },
  { cls := 7, slots := #[.null, .int 8, .int 0, .null], vm := .none },
  { cls := 7, slots := #[.null, .int 9, .int 0, .null], vm := .none },
  { cls := 7, slots := #[.null, .int 10, .int 0, .null], vm := .none },
  { cls := 7, slots := #[.null, .int 11, .int 0, .null], vm := .none },
  { cls := 7, slots := #[.null, .int 12, .int 0, .null], vm := .none },
  { cls := 7, slots := #[.null, .int 13, .int 0, .null], vm := .none },
  { cls := 7, slots := #[.null, .int 14, .int 0, .null], vm := .none },
  { cls := 7, slots := #[.null, .int 15, .int 0, .null], vm := .none },
  { cls := 7, slots := #[.null, .int 16, .int 0, .null], vm := .none },
  { cls := 7, slots := #[.null, .int 17, .int 0, .null], vm := .none },
  { cls := 7, slots := #[.null, .int 18, .int 0, .null], vm := .none },
  { cls := 7, slots := #[.null, .int 19, .int 0, .null], vm := .none },
  { cls := 7, slots := #[.null, .int 20, .int 0, .null], vm := .none },
  { cls := 7, slots := #[.null, .int 21, .int 0, .null], vm := .none }]
def classes : Array Class := #[k0, k1, k2, k3, k4, k5, k6, k7, k8, k9, k10, k11, k12]
def interned : List (Array UInt16 × Addr) := []
def slotsUsed : Nat := 111
def theMethod : MethodId := ⟨1, 2⟩
def args0 : Array Value := #[.int 5, .int 7]
def aboutOver (below : List Frame) : State where
  vm := { classes := classes, interned := interned.toArray }
  heap := heap
  slotsUsed := slotsUsed
  threads := #[{ frames := .invoking theMethod args0 :: below }]
def below0 : List Frame := [.native { method := ⟨0, 0⟩, args := #[] }]
def about1 : State := aboutOver below0
def p0 : Program := .bare "" "" ""
def e0 : Env := launch0.env 0 0 0
theorem w_frames : about1.frames = Frame.invoking theMethod args0 :: below0 := rfl
set_option maxRecDepth 65536 in
theorem w_args : argsFit about1.vm theMethod args0 = true := by decide +kernel
set_option maxRecDepth 65536 in
theorem w_heap : heapFits about1 = true := by decide +kernel
set_option maxRecDepth 65536 in
theorem w_runnable : about1.curStatus? = some .runnable := by decide +kernel
set_option maxRecDepth 65536 in
theorem w_alone : about1.alone = true := by decide +kernel
set_option maxRecDepth 65536 in
theorem w_named : about1.methodNamed? x = some theMethod := by decide +kernel
set_option maxRecDepth 65536 in
theorem w_hears : about1.hears theMethod below0 = true := by decide +kernel
set_option maxRecDepth 65536 in
theorem w_ripe : about1.ripe theMethod args0 below0 = true := by decide +kernel
theorem w_running : about1.status = .running := rfl
set_option maxRecDepth 65536 in
theorem w_room : about1.hasRoom e0.platform room_1 = true :=
  launch0.hasRoom_least _ room_1 (by decide +kernel) (by decide +kernel) (by decide +kernel) (by decide +kernel) (by decide +kernel) (by decide +kernel)
theorem allAtoms_all (ts : List Jvm.Cond) (a : Array Jvm.Value) (st : Jvm.State) : (allAtoms ts).before a st = ts.all (fun c => c.before a st) := by
  induction ts with
  | nil => rfl
  | cons c t ih =>
    show (Jvm.Cond.and c (allAtoms t)).before a st = _
    rw [Jvm.Cond.before_and, ih, List.all_cons]
def words1 : List Jvm.Cond := Jvm.Cond.code x code maxLocals ret :: tables_1
/-- a 'code' word, met by the world's own term for the bytes: nothing is compared byte by byte -/
theorem code_word {y : MethodName} {bytes : ByteArray} {mx : Nat} {rt : Option FieldType} {a : Array Value} {s : State} {m : MethodId} {meth : Method} {c : Code} (h1 : s.methodNamed? y = some m) (h2 : s.vm.method? m = some meth) (h3 : meth.code = some c) (h4 : c.code = bytes)
    (h5 : (c.maxLocals == mx && c.exceptionTable.isEmpty && decide (c.maxStack ≤ mostOperands) && decide (meth.sig.returnType = rt) && !meth.locks && decide (parseMethodDescriptor y.desc = some meth.sig)) = true) : (Jvm.Cond.code y bytes mx rt).before a s = true := by
  simp only [Bool.and_eq_true, beq_iff_eq, Bool.not_eq_true', decide_eq_true_eq] at h5
  obtain ⟨⟨⟨⟨⟨g1, g2⟩, g3⟩, g4⟩, g5⟩, g6⟩ := h5
  simp [Cond.before, Cond.holds, Cond.value, h1, h2, h3, h4, g1, g2, g3, g4, g5, g6]
def isCode : Jvm.Cond → Bool
  | .code _ _ _ _ => true
  | _ => false
theorem all_split {L : List Jvm.Cond} {P : Jvm.Cond → Bool} (h1 : L.all (fun c => isCode c || P c) = true) (h2 : ∀ c ∈ L.filter isCode, P c = true) : L.all P = true := by
  refine List.all_eq_true.mpr fun c hc => ?_
  have h := List.all_eq_true.mp h1 c hc
  rcases Bool.eq_false_or_eq_true (isCode c) with hi | hi
  · exact h2 c (List.mem_filter.mpr ⟨hc, hi⟩)
  · simpa [hi] using h
set_option maxRecDepth 65536 in
theorem w_c0 : (Jvm.Cond.code x code maxLocals ret).before args0 about1 = true := code_word (m := ⟨1, 2⟩) (meth := k1m2) (c := k1c2) (by decide +kernel) rfl rfl rfl (by decide +kernel)
set_option maxRecDepth 65536 in
theorem w_c1 : (Jvm.Cond.code ({ cls := "com/example/swapscribe/swapscribe/trs/SAndPRatingIsAtLeastPinLaw", name := "atRank", desc := "(I)Lcom/example/swapscribe/swapscribe/trs/SAndPRating;" } : Jvm.MethodName) method_2_code (1 : Nat) (Option.some (Jvm.ClassFile.FieldType.object "com/example/swapscribe/swapscribe/trs/SAndPRating"))).before args0 about1 = true := code_word (m := ⟨1, 1⟩) (meth := k1m1) (c := k1c1) (by decide +kernel) rfl rfl rfl (by decide +kernel)
set_option maxRecDepth 65536 in
theorem w_c2 : (Jvm.Cond.code ({ cls := "com/example/swapscribe/swapscribe/trs/SAndPRating", name := "isAtLeast", desc := "(Lcom/example/swapscribe/swapscribe/trs/SAndPRating;)Z" } : Jvm.MethodName) prog_29_method_5_code (2 : Nat) (Option.some Jvm.ClassFile.FieldType.boolean)).before args0 about1 = true := code_word (m := ⟨7, 0⟩) (meth := k7m0) (c := k7c0) (by decide +kernel) rfl rfl rfl (by decide +kernel)
set_option maxRecDepth 65536 in
theorem w_c3 : (Jvm.Cond.code ({ cls := "java/lang/Enum", name := "ordinal", desc := "()I" } : Jvm.MethodName) jdk_37_method_2_code (1 : Nat) (Option.some Jvm.ClassFile.FieldType.int)).before args0 about1 = true := code_word (m := ⟨5, 0⟩) (meth := k5m0) (c := k5c0) (by decide +kernel) rfl rfl rfl (by decide +kernel)
def codes1 : List Jvm.Cond := [Jvm.Cond.code x code maxLocals ret, Jvm.Cond.code ({ cls := "com/example/swapscribe/swapscribe/trs/SAndPRatingIsAtLeastPinLaw", name := "atRank", desc := "(I)Lcom/example/swapscribe/swapscribe/trs/SAndPRating;" } : Jvm.MethodName) method_2_code (1 : Nat) (Option.some (Jvm.ClassFile.FieldType.object "com/example/swapscribe/swapscribe/trs/SAndPRating")), Jvm.Cond.code ({ cls := "com/example/swapscribe/swapscribe/trs/SAndPRating", name := "isAtLeast", desc := "(Lcom/example/swapscribe/swapscribe/trs/SAndPRating;)Z" } : Jvm.MethodName) prog_29_method_5_code (2 : Nat) (Option.some Jvm.ClassFile.FieldType.boolean), Jvm.Cond.code ({ cls := "java/lang/Enum", name := "ordinal", desc := "()I" } : Jvm.MethodName) jdk_37_method_2_code (1 : Nat) (Option.some Jvm.ClassFile.FieldType.int)]
set_option maxRecDepth 65536 in
theorem codes_eq : words1.filter isCode = codes1 := rfl
theorem w_codes : ∀ c ∈ words1.filter isCode, c.before args0 about1 = true := by
  rw [codes_eq]
  intro c hc
  simp only [codes1, List.mem_cons, List.not_mem_nil, or_false] at hc
  rcases hc with rfl | rfl | rfl | rfl
  · exact w_c0
  · exact w_c1
  · exact w_c2
  · exact w_c3
set_option maxRecDepth 65536 in
theorem w_t1 : (words1.take 24).all (fun c => isCode c || c.before args0 about1) = true := by decide +kernel
set_option maxRecDepth 65536 in
theorem w_t2 : ((words1.drop 24).take 24).all (fun c => isCode c || c.before args0 about1) = true := by decide +kernel
set_option maxRecDepth 65536 in
theorem w_t3 : ((words1.drop 24).drop 24).all (fun c => isCode c || c.before args0 about1) = true := by decide +kernel
theorem w_tables : (allAtoms (Jvm.Cond.code x code maxLocals ret :: tables_1)).before args0 about1 = true := by
  rw [allAtoms_all]
  show words1.all (fun c => c.before args0 about1) = true
  refine all_split ?_ w_codes
  rw [← List.take_append_drop 24 words1, List.all_append, w_t1, ← List.take_append_drop 24 (words1.drop 24), List.all_append, w_t2, w_t3]
  rfl
set_option maxRecDepth 65536 in
theorem w_case : (Jvm.Cond.and given_1 narrow_1).before args0 about1 = true := by decide +kernel
theorem w_applies : (headSpec (Jvm.Cond.code x code maxLocals ret :: tables_1) room_1).applies x e0.platform about1 = true :=
  (Spec.applies_iff w_frames).mpr ⟨w_running, w_runnable, w_alone, w_named, w_hears, w_ripe, w_room, w_tables⟩
theorem atStart : AtStart classFile x code maxLocals ret World_1 tables_1 room_1 Calls_1 rest_1 Pre_1 launch0 p0 e0 about1 theMethod args0 below0 :=
  ⟨lists_1, trivial, launch0.admits_env _ _ _, launch0.least_env, fairChoices_fair.cas, fairChoices_fair.clock, w_frames, w_args, w_heap, w_applies, trivial, trivial, w_case⟩
end start1
theorem witness_1 : WitnessClaimed_1 := ⟨start1.p0, start1.e0, start1.about1, start1.theMethod, start1.args0, start1.below0, start1.atStart⟩
end Jvm.Pilot.@@N@@
