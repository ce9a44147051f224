import JvmDerived
import JvmDerived.Pilot.@@N@@Statement
import JvmDerived.Pilot.@@N@@Code
set_option linter.unusedVariables false
set_option linter.unusedSimpArgs false
namespace Jvm.RoadKit
open Sem ClassFile Op Lib Jvm.Stand Jvm.Free Jvm.LawKit
section New
variable {p : Program} {l : Launch} {e : Env} {R : Room} {s : State} {m : MethodId} {args : Array Value} {below : List Frame} {meth : Method} {c : Code} {T : State} {locs : List Loc} {cells slots : Nat}
theorem retI (X : Stand p l e R s m args below meth c T locs cells slots) (hx : p.tables.exec = Jvm.exec) {pc : Nat} {Ls : Array Slot} {z : Int32} {rest : List Value} (hret : meth.sig.returnType = some .int) (hd : decode c.code pc = .ok (.ireturn, 1)) {fs : List Frame}
    (hl : ∀ (f : JFrame) (acts : List Action), f.method = m → f.locked = none → f.entered = [] → (doReturn e (T.setTop f) acts (some (.int z))).1 = T.setFrames fs) : Steps p.tables e below (T.setTop (mkF m pc Ls (.int z :: rest))) (T.setFrames fs) := by
  have hm' : T.vm.method? m = some meth := X.method'
  have hn : narrow .int (.int z) = .int z := rfl
  show Steps p.tables e below (T.setTop { method := m, pc := pc, locals := Ls, stack := _ :: rest, locked := none }) _
  jvm_step X.here [X.here.top, hx, hd, hm', hret, hn]
  first | (intro acts; rw [hl _ acts rfl rfl rfl]) | rw [hl _ _ rfl rfl rfl]
  exact Steps.refl _
theorem retJ (X : Stand p l e R s m args below meth c T locs cells slots) (hx : p.tables.exec = Jvm.exec) {pc : Nat} {Ls : Array Slot} {z : Int64} {rest : List Value} (hret : meth.sig.returnType = some .long) (hd : decode c.code pc = .ok (.lreturn, 1)) {fs : List Frame}
    (hl : ∀ (f : JFrame) (acts : List Action), f.method = m → f.locked = none → f.entered = [] → (doReturn e (T.setTop f) acts (some (.long z))).1 = T.setFrames fs) : Steps p.tables e below (T.setTop (mkF m pc Ls (.long z :: rest))) (T.setFrames fs) := by
  have hm' : T.vm.method? m = some meth := X.method'
  show Steps p.tables e below (T.setTop { method := m, pc := pc, locals := Ls, stack := _ :: rest, locked := none }) _
  jvm_step X.here [X.here.top, hx, hd, hm', hret, narrow]
  first | (intro acts; rw [hl _ acts rfl rfl rfl]) | rw [hl _ _ rfl rfl rfl]
  exact Steps.refl _
theorem retA (X : Stand p l e R s m args below meth c T locs cells slots) (hx : p.tables.exec = Jvm.exec) {pc : Nat} {Ls : Array Slot} {z : Value} {t : FieldType} {rest : List Value} (hret : meth.sig.returnType = some t) (ht : t.isReference = true) (hz : z.isRef = true) (hd : decode c.code pc = .ok (.areturn, 1)) {fs : List Frame}
    (hl : ∀ (f : JFrame) (acts : List Action), f.method = m → f.locked = none → f.entered = [] → (doReturn e (T.setTop f) acts (some z)).1 = T.setFrames fs) : Steps p.tables e below (T.setTop (mkF m pc Ls (z :: rest))) (T.setFrames fs) := by
  have hm' : T.vm.method? m = some meth := X.method'
  show Steps p.tables e below (T.setTop { method := m, pc := pc, locals := Ls, stack := _ :: rest, locked := none }) _
  jvm_step X.here [X.here.top, hx, hd, hm', hret, hz, ht]
  first | (intro acts; rw [hl _ acts rfl rfl rfl]) | rw [hl _ _ rfl rfl rfl]
  exact Steps.refl _
/-- what a body's contract owes from a state on -/
def Owe (p : Program) (e : Env) (below : List Frame) (first : State) (ck sk : Nat) (Q : Option Value → Heap → List Loc → Prop) (T : State) (g : JFrame) : Prop :=
  ∃ s₂ o, Steps p.tables e below (T.setTop g) s₂ ∧ s₂.status = .running ∧ Ended s₂ below o ∧ ∃ v L, o = .returned v ∧ Q v s₂.heap L ∧ FrameEnd first o s₂ L ck sk
theorem Owe.step {first : State} {ck sk : Nat} {Q : Option Value → Heap → List Loc → Prop} {T T' : State} {g g' : JFrame} (h : ∀ t, Steps p.tables e below (T'.setTop g') t → Steps p.tables e below (T.setTop g) t)
    (k : Owe p e below first ck sk Q T' g') : Owe p e below first ck sk Q T g := by
  obtain ⟨s₂, o, h1, h2⟩ := k
  exact ⟨s₂, o, h _ h1, h2⟩
theorem Owe.ret {ck sk : Nat} {Q : Option Value → Heap → List Loc → Prop} {g : JFrame} (X : Stand p l e R s m args below meth c T locs cells slots) (hlk : meth.locks = false) {v : Option Value} (hv : meth.sig.returnType = none → v = none)
    (hst : ∀ fs, (∀ (f : JFrame) (acts : List Action), f.method = m → f.locked = none → f.entered = [] → (doReturn e (T.setTop f) acts v).1 = T.setFrames fs) → Steps p.tables e below (T.setTop g) (T.setFrames fs))
    (hQ : Q v T.heap locs) (hc : cells ≤ ck) (hs : slots ≤ sk) : Owe p e below s ck sk Q T g := by
  obtain ⟨fs, hr, hrun, hended, hW, hsame⟩ := X.leave (v := v) hv hlk
  exact ⟨_, _, hst fs hr, hrun, hended, _, _, rfl, hQ, ⟨_, rfl⟩, hW, hsame.mono hc hs⟩
/-- a body that writes nothing and makes nothing: it returns w -/
def QP (w : Value) (h0 : Heap) (n0 : Nat) (v : Option Value) (h : Heap) (L : List Loc) : Prop := v = some w ∧ Fr n0 L ∧ h = h0
/-- .. and returns nothing -/
def QN (h0 : Heap) (n0 : Nat) (v : Option Value) (h : Heap) (L : List Loc) : Prop := v = none ∧ Fr n0 L ∧ h = h0
/-- the law itself -/
def QL (w : Value) (n0 : Nat) (v : Option Value) (h : Heap) (L : List Loc) : Prop := v = some w ∧ Fr n0 L
theorem Owe.cast {first : State} {ck sk n0 : Nat} {w w' : Int32} {g : JFrame} (q : w' = w) (k : Owe p e below first ck sk (QL (.int w') n0) T g) : Owe p e below first ck sk (QL (.int w) n0) T g := q ▸ k
end New
end Jvm.RoadKit
namespace Jvm.RoadKit
open Sem ClassFile Op Lib Jvm.Stand Jvm.Free Jvm.LawKit
section Arrays
variable {p : Program} {l : Launch} {e : Env} {R : Room} {s : State} {m : MethodId} {args : Array Value} {below : List Frame} {meth : Method} {c : Code} {T : State} {locs : List Loc} {cells slots : Nat}
variable {Z : State} {h h' : Heap} {a b : Addr} {ty : FieldType} {n sl : Nat} {f : Nat → Value} {v : Value} {ws : List Addr}
/-- an array of n places; place j holds f j -/
def AV (Z : State) (h : Heap) (a : Addr) (ty : FieldType) (n : Nat) (f : Nat → Value) : Prop := ∃ c : Cell, Arr Z h a c ty ∧ c.slots.size = n ∧ ∀ j, j < n → c.slots[j]? = some (f j)
abbrev AI (Z : State) (h : Heap) (a : Addr) (ty : FieldType) (n : Nat) (f : Nat → Int32) : Prop := AV Z h a ty n (fun k => .int (f k))
abbrev AJ (Z : State) (h : Heap) (a : Addr) (n : Nat) (f : Nat → Int64) : Prop := AV Z h a .long n (fun k => .long (f k))
def own_upd {α : Type} (f : Nat → α) (j : Nat) (x : α) : Nat → α := fun k => if k = j then x else f k
theorem own_upd_same {α : Type} (f : Nat → α) (j : Nat) (x : α) : own_upd f j x j = x := if_pos rfl
theorem own_upd_other {α : Type} (f : Nat → α) (j k : Nat) (x : α) (q : k ≠ j) : own_upd f j x k = f k := if_neg q
theorem AV.lt (F : AV Z h a ty n f) : a < h.size := by obtain ⟨c, A, -⟩ := F; exact A.lt
theorem AV.ext (F : AV Z h a ty n f) (E : Ext h h') : AV Z h' a ty n f := by obtain ⟨c, A, r⟩ := F; exact ⟨c, A.ext E, r⟩
theorem AV.other (F : AV Z h b ty n f) (W : Wr h h' a sl v) (q : b ≠ a) : AV Z h' b ty n f := by obtain ⟨c, A, r⟩ := F; exact ⟨c, A.other W q, r⟩
theorem AV.keep (F : AV Z h a ty n f) (K : Keep h h' ws) (q : a ∉ ws) : AV Z h' a ty n f := by obtain ⟨c, A, r⟩ := F; exact ⟨c, ⟨K.2.1 a c A.1 q, A.2⟩, r⟩
theorem AV.congr {f' : Nat → Value} (F : AV Z h a ty n f) (q : ∀ k, k < n → f k = f' k) : AV Z h a ty n f' := by obtain ⟨c, A, S, H⟩ := F; exact ⟨c, A, S, fun k hk => by rw [← q k hk]; exact H k hk⟩
theorem AV.new {k : ClassId} {z : Int32} (A : Arr Z h a (newA k ty z) ty) (e : z.toNatClampNeg = n) : AV Z h a ty n (fun _ => defaultValue ty) := by
  subst e
  exact ⟨_, A, sz_new _ _ _, fun j hj => by simp [newA, hj]⟩
theorem AV.set {j : Nat} (F : AV Z h a ty n f) (W : Wr h h' a j v) : AV Z h' a ty n (own_upd f j v) := by
  obtain ⟨c, A, S, H⟩ := F
  refine ⟨_, A.same W, by rw [sz_set]; exact S, fun k hk => ?_⟩
  by_cases u : k = j
  · subst u; simp [Cell.setSlot, S, hk, own_upd]
  · have := H k hk
    simp only [Cell.setSlot, own_upd, if_neg u] at this ⊢
    rw [Array.getElem?_setIfInBounds_ne (fun q => u q.symm)]; exact this
theorem AI.set {j : Nat} {g : Nat → Int32} {x : Int32} (F : AI Z h a ty n g) (W : Wr h h' a j (.int x)) : AI Z h' a ty n (own_upd g j x) := (AV.set F W).congr fun k _ => by unfold own_upd; split <;> rfl
theorem AJ.set {j : Nat} {g : Nat → Int64} {x : Int64} (F : AJ Z h a n g) (W : Wr h h' a j (.long x)) : AJ Z h' a n (own_upd g j x) := (AV.set F W).congr fun k _ => by unfold own_upd; split <;> rfl
theorem in_of {c : Cell} {j : Int32} (S : c.slots.size = n) (j0 : ¬ j < 0) (jn : j.toNatClampNeg < n) : ¬ (j < 0 ∨ c.slots.size ≤ j.toNatClampNeg) := by rw [S]; exact fun q => q.elim j0 fun y => absurd jn (Nat.not_lt.mpr y)
theorem ldAI (X : Stand p l e R s m args below meth c T locs cells slots) (hx : p.tables.exec = Jvm.exec) (hZ : Z.Warmed39 s.vm) (eT : T.heap = h) (F : AV Z h a .int n f) {j : Int32} (j0 : ¬ j < 0) (jn : j.toNatClampNeg < n) {g : JFrame} (hg : g.method = m) {rest : List Value} (hs : g.stack = .int j :: .ref a :: rest) (hd : decode c.code g.pc = .ok (.iaload, 1)) (target : State)
    (hr : Steps p.tables e below (T.setTop { g with pc := g.pc + 1, stack := f j.toNatClampNeg :: rest }) target) : Steps p.tables e below (T.setTop g) target := by
  obtain ⟨cl, A, S, H⟩ := F
  exact X.iaload hx (by rw [eT]; exact A.1) (State.isArrayOf_alike hZ.alike A.2.1) A.2.2 (in_of S j0 jn) (H _ jn) hg hs hd target hr
theorem ldAB (X : Stand p l e R s m args below meth c T locs cells slots) (hx : p.tables.exec = Jvm.exec) (hZ : Z.Warmed39 s.vm) (eT : T.heap = h) (F : AV Z h a .byte n f) {j : Int32} (j0 : ¬ j < 0) (jn : j.toNatClampNeg < n) {g : JFrame} (hg : g.method = m) {rest : List Value} (hs : g.stack = .int j :: .ref a :: rest) (hd : decode c.code g.pc = .ok (.baload, 1)) (target : State)
    (hr : Steps p.tables e below (T.setTop { g with pc := g.pc + 1, stack := f j.toNatClampNeg :: rest }) target) : Steps p.tables e below (T.setTop g) target := by
  obtain ⟨cl, A, S, H⟩ := F
  exact X.baloadBytes hx (by rw [eT]; exact A.1) (State.isArrayOf_alike hZ.alike A.2.1) A.2.2 (in_of S j0 jn) (H _ jn) hg hs hd target hr
theorem ldAJ (X : Stand p l e R s m args below meth c T locs cells slots) (hx : p.tables.exec = Jvm.exec) (hZ : Z.Warmed39 s.vm) (eT : T.heap = h) (F : AV Z h a .long n f) {j : Int32} (j0 : ¬ j < 0) (jn : j.toNatClampNeg < n) {g : JFrame} (hg : g.method = m) {rest : List Value} (hs : g.stack = .int j :: .ref a :: rest) (hd : decode c.code g.pc = .ok (.laload, 1)) (target : State)
    (hr : Steps p.tables e below (T.setTop { g with pc := g.pc + 1, stack := f j.toNatClampNeg :: rest }) target) : Steps p.tables e below (T.setTop g) target := by
  obtain ⟨cl, A, S, H⟩ := F
  exact X.laload hx (by rw [eT]; exact A.1) (State.isArrayOf_alike hZ.alike A.2.1) A.2.2 (in_of S j0 jn) (H _ jn) hg hs hd target hr
theorem stAI (X : Stand p l e R s m args below meth c T locs cells slots) (hx : p.tables.exec = Jvm.exec) (hZ : Z.Warmed39 s.vm) (eT : T.heap = h) {f : Nat → Int32} (F : AI Z h a .int n f) {j x : Int32} (j0 : ¬ j < 0) (jn : j.toNatClampNeg < n) {g : JFrame} (hg : g.method = m) {rest : List Value} (hs : g.stack = .int x :: .int j :: .ref a :: rest) (hd : decode c.code g.pc = .ok (.iastore, 1)) :
    ∃ T' h', Stand p l e R s m args below meth c T' (locs ++ [⟨a, j.toNatClampNeg⟩]) cells slots ∧ T'.heap = h' ∧ Wr h h' a j.toNatClampNeg (.int x) ∧ AI Z h' a .int n (own_upd f j.toNatClampNeg x) ∧ ∀ target, Steps p.tables e below (T'.setTop { g with pc := g.pc + 1, stack := rest }) target → Steps p.tables e below (T.setTop g) target := by
  obtain ⟨cl, A, S, H⟩ := id F
  obtain ⟨T', h', X', e', W, st⟩ := stI X hx hZ eT A (in_of S j0 jn) hg hs hd
  exact ⟨T', h', X', e', W, AI.set F W, st⟩
theorem stAB (X : Stand p l e R s m args below meth c T locs cells slots) (hx : p.tables.exec = Jvm.exec) (hZ : Z.Warmed39 s.vm) (eT : T.heap = h) {f : Nat → Int32} (F : AI Z h a .byte n f) {j x : Int32} (j0 : ¬ j < 0) (jn : j.toNatClampNeg < n) {g : JFrame} (hg : g.method = m) {rest : List Value} (hs : g.stack = .int x :: .int j :: .ref a :: rest) (hd : decode c.code g.pc = .ok (.bastore, 1)) :
    ∃ T' h', Stand p l e R s m args below meth c T' (locs ++ [⟨a, j.toNatClampNeg⟩]) cells slots ∧ T'.heap = h' ∧ Wr h h' a j.toNatClampNeg (.int (nar .byte x)) ∧ AI Z h' a .byte n (own_upd f j.toNatClampNeg (nar .byte x)) ∧ ∀ target, Steps p.tables e below (T'.setTop { g with pc := g.pc + 1, stack := rest }) target → Steps p.tables e below (T.setTop g) target := by
  obtain ⟨cl, A, S, H⟩ := id F
  obtain ⟨T', h', X', e', W, st⟩ := stB X hx hZ eT A (in_of S j0 jn) hg hs hd
  exact ⟨T', h', X', e', W, AI.set F W, st⟩
theorem stAC (X : Stand p l e R s m args below meth c T locs cells slots) (hx : p.tables.exec = Jvm.exec) (hZ : Z.Warmed39 s.vm) (eT : T.heap = h) {f : Nat → Int32} (F : AI Z h a .char n f) {j x : Int32} (j0 : ¬ j < 0) (jn : j.toNatClampNeg < n) {g : JFrame} (hg : g.method = m) {rest : List Value} (hs : g.stack = .int x :: .int j :: .ref a :: rest) (hd : decode c.code g.pc = .ok (.castore, 1)) :
    ∃ T' h', Stand p l e R s m args below meth c T' (locs ++ [⟨a, j.toNatClampNeg⟩]) cells slots ∧ T'.heap = h' ∧ Wr h h' a j.toNatClampNeg (.int (nar .char x)) ∧ AI Z h' a .char n (own_upd f j.toNatClampNeg (nar .char x)) ∧ ∀ target, Steps p.tables e below (T'.setTop { g with pc := g.pc + 1, stack := rest }) target → Steps p.tables e below (T.setTop g) target := by
  obtain ⟨cl, A, S, H⟩ := id F
  obtain ⟨T', h', X', e', W, st⟩ := stC X hx hZ eT A (in_of S j0 jn) hg hs hd
  exact ⟨T', h', X', e', W, AI.set F W, st⟩
theorem stAJ (X : Stand p l e R s m args below meth c T locs cells slots) (hx : p.tables.exec = Jvm.exec) (hZ : Z.Warmed39 s.vm) (eT : T.heap = h) {f : Nat → Int64} (F : AJ Z h a n f) {j : Int32} {x : Int64} (j0 : ¬ j < 0) (jn : j.toNatClampNeg < n) {g : JFrame} (hg : g.method = m) {rest : List Value} (hs : g.stack = .long x :: .int j :: .ref a :: rest) (hd : decode c.code g.pc = .ok (.lastore, 1)) :
    ∃ T' h', Stand p l e R s m args below meth c T' (locs ++ [⟨a, j.toNatClampNeg⟩]) cells slots ∧ T'.heap = h' ∧ Wr h h' a j.toNatClampNeg (.long x) ∧ AJ Z h' a n (own_upd f j.toNatClampNeg x) ∧ ∀ target, Steps p.tables e below (T'.setTop { g with pc := g.pc + 1, stack := rest }) target → Steps p.tables e below (T.setTop g) target := by
  obtain ⟨cl, A, S, H⟩ := id F
  obtain ⟨T', h', X', e', W, st⟩ := stJ X hx hZ eT A (in_of S j0 jn) hg hs hd
  exact ⟨T', h', X', e', W, AJ.set F W, st⟩
theorem lenA (X : Stand p l e R s m args below meth c T locs cells slots) (hx : p.tables.exec = Jvm.exec) (hZ : Z.Warmed39 s.vm) (eT : T.heap = h) (F : AV Z h a ty n f) {z : Int32} (hn : n.toInt32 = z) {g : JFrame} (hg : g.method = m) {rest : List Value} (hs : g.stack = .ref a :: rest) (hd : decode c.code g.pc = .ok (.arraylength, 1)) (target : State)
    (hr : Steps p.tables e below (T.setTop { g with pc := g.pc + 1, stack := .int z :: rest }) target) : Steps p.tables e below (T.setTop g) target := by
  obtain ⟨cl, A, S, H⟩ := F
  subst hn
  exact X.arraylength hx (by rw [eT]; exact A.1) (State.isArrayOf_alike hZ.alike A.2.1) hg hs hd target (by rw [S]; exact hr)
end Arrays
end Jvm.RoadKit
namespace Jvm.Pilot.@@N@@
open Jvm Jvm.ClassFile Sem Op Lib Jvm.Free Jvm.Stand Jvm.LawKit Jvm.RoadKit Bundle Jvm.Pilot.@@N@@.Jvm.D
theorem own_irem (x y : Int32) : x - (x / y) * y = x % y := by
  apply Int32.toInt_inj.mp
  have h1 := Int32.le_toInt (x % y)
  have h2 := Int32.toInt_lt (x % y)
  rw [Int32.toInt_sub, Int32.toInt_mul, Int32.toInt_div, Int.bmod_mul_bmod, Int.sub_bmod_bmod, Int.mul_comm (x.toInt.tdiv y.toInt), ← Int.tmod_def, ← Int32.toInt_mod]
  exact Int.bmod_eq_of_le_mul_two (by omega) (by omega)
/-- an index, told by its int -/
theorem own_ix {j : Int32} {n : Nat} (h0 : 0 ≤ j.toInt) (h1 : j.toInt < (n : Int)) : ¬ j < 0 ∧ j.toNatClampNeg < n := by
  rw [Int32.lt_iff_toInt_lt]
  have e0 : (0 : Int32).toInt = 0 := rfl
  have e1 : j.toNatClampNeg = j.toInt.toNat := rfl
  rw [e0, e1]; omega
theorem own_d1_0 : decode jdk_29_method_65_code 0 = .ok (.iload_n 0, 1) := by decide +kernel
theorem own_d1_1 : decode jdk_29_method_65_code 1 = .ok (.iload_n 1, 1) := by decide +kernel
theorem own_d1_2 : decode jdk_29_method_65_code 2 = .ok (.if_icmp .lt 7, 3) := by decide +kernel
theorem own_d1_5 : decode jdk_29_method_65_code 5 = .ok (.iload_n 0, 1) := by decide +kernel
theorem own_d1_6 : decode jdk_29_method_65_code 6 = .ok (.goto 4, 3) := by decide +kernel
theorem own_d1_9 : decode jdk_29_method_65_code 9 = .ok (.iload_n 1, 1) := by decide +kernel
theorem own_d1_10 : decode jdk_29_method_65_code 10 = .ok (.ireturn, 1) := by decide +kernel
theorem own_ef1 (m : MethodId) (p0 : Int32) (p1 : Int32) : entryFrame m #[(.int p0), (.int p1)] 2 = mkF m 0 #[.val (.int p0), .val (.int p1)] [] := by first | (simp [entryFrame, mkF, argsToLocals, Value.category]; done) | rfl
def own_f1_0 (p0 : Int32) (p1 : Int32) : Int32 := (if p0 < p1 then p1 else p0)
set_option maxRecDepth 65536 in
set_option maxHeartbeats 40000000 in
theorem own_rm1 (l : Launch) (Z : State) (aA : Array Value) (hw : ∀ d ∈ tables_1, d.before aA Z = true) (ws : List Jvm.Cond) (p0 : Int32) (p1 : Int32)  (h0 : Heap) (n0 : Nat) (Z0 : n0 ≤ h0.size) :
    MetFree l (⟨"java/lang/Math", "max", "(II)I"⟩ : MethodName) (head1 (Jvm.Cond.code (⟨"java/lang/Math", "max", "(II)I"⟩ : MethodName) jdk_29_method_65_code 2 (some .int) :: ws) ({ frames := 0, cells := 0, slots := 0, locals := 0 } : Room)) (fun a U => a = #[(.int p0), (.int p1)] ∧ Z.Warmed39 U.vm ∧ U.heap = h0) (fun _ _ _ _ _ => True) (fun _ U o U' => ∃ v L, o = .returned v ∧ (QP (.int (own_f1_0 p0 p1)) h0 n0) v U'.heap L ∧ FrameEnd U o U' L ({ frames := 0, cells := 0, slots := 0, locals := 0 } : Room).cells ({ frames := 0, cells := 0, slots := 0, locals := 0 } : Room).slots) := by
  refine MetFree.of_bodySF (Jvm.Free.JP.mathPlain rfl (by decide +kernel)) hisR ?_
  intro p e s m args below meth c s₁ Bd hml0 hP hK
  obtain ⟨rfl, hZ, hh⟩ := hP
  have hx := Bd.exec
  have hby := Bd.bytes
  have hml : c.maxLocals = 2 := hml0
  have hown : s.vm.findClass "java/lang/Math" = some m.cls := findClass_of_methodNamed Bd.named
  have hnm := (name_of_methodNamed Bd.named Bd.method).1
  have X0 : Stand p l e ({ frames := 0, cells := 0, slots := 0, locals := 0 } : Room) s m #[(.int p0), (.int p1)] below meth c s₁ [] 0 0 := Stand.of_body Bd
  have e0 : s₁.heap = h0 := by rw [← hh, Bd.state]; rfl
  have N0 := Fr.nil n0
  refine Owe.step (T := s₁) (T' := s₁) (g' := (mkF m 0 #[.val (.int p0), .val (.int p1)] [])) (fun t k => castTop (own_ef1 m p0 p1) k) ?_
  refine Owe.step (T' := s₁) (g' := (mkF m 2 #[.val (.int p0), .val (.int p1)] [(.int p1), (.int p0)])) (fun t k => ?_) ?_
  · show Steps p.tables e below (s₁.setTop (mkF m 0 #[.val (.int p0), .val (.int p1)] [])) t
    refine XS.iloadN X0.here hx rfl (hb hby own_d1_0) rfl ?_
    show Steps p.tables e below (s₁.setTop (mkF m 1 #[.val (.int p0), .val (.int p1)] [(.int p0)])) t
    refine XS.iloadN X0.here hx rfl (hb hby own_d1_1) rfl ?_
    show Steps p.tables e below (s₁.setTop (mkF m 2 #[.val (.int p0), .val (.int p1)] [(.int p1), (.int p0)])) t
    exact k
  by_cases hc2 : p0 < p1
  · refine Owe.step (T' := s₁) (g' := (mkF m 9 #[.val (.int p0), .val (.int p1)] [])) (fun t k => ?_) ?_
    · show Steps p.tables e below (s₁.setTop (mkF m 2 #[.val (.int p0), .val (.int p1)] [(.int p1), (.int p0)])) t
      refine XS.icmpYes X0.here hx rfl (pc0 := 2) (pc' := 9) rfl (hb hby own_d1_2) rfl (tlt hc2).1 (by decide) (by decide) ?_
      show Steps p.tables e below (s₁.setTop (mkF m 9 #[.val (.int p0), .val (.int p1)] [])) t
      exact k
    rw [show own_f1_0 p0 p1 = p1 from (by rw [own_f1_0, if_pos hc2])]
    refine Owe.ret X0 Bd.notSynchronized (v := (some (.int p1))) (fun h => by rw [Bd.returns] at h; cases h) (fun fs hr => ?_) ⟨rfl, N0, e0⟩ (by decide) (by decide)
    show Steps p.tables e below (s₁.setTop (mkF m 9 #[.val (.int p0), .val (.int p1)] [])) _
    refine XS.iloadN X0.here hx rfl (hb hby own_d1_9) rfl ?_
    show Steps p.tables e below (s₁.setTop (mkF m 10 #[.val (.int p0), .val (.int p1)] [(.int p1)])) _
    exact retI X0 hx Bd.returns (hb hby own_d1_10) hr
  · refine Owe.step (T' := s₁) (g' := (mkF m 5 #[.val (.int p0), .val (.int p1)] [])) (fun t k => ?_) ?_
    · show Steps p.tables e below (s₁.setTop (mkF m 2 #[.val (.int p0), .val (.int p1)] [(.int p1), (.int p0)])) t
      refine XS.icmpNo X0.here hx rfl (hb hby own_d1_2) rfl (flt hc2).1 ?_
      show Steps p.tables e below (s₁.setTop (mkF m 5 #[.val (.int p0), .val (.int p1)] [])) t
      exact k
    rw [show own_f1_0 p0 p1 = p0 from (by rw [own_f1_0, if_neg hc2])]
    refine Owe.ret X0 Bd.notSynchronized (v := (some (.int p0))) (fun h => by rw [Bd.returns] at h; cases h) (fun fs hr => ?_) ⟨rfl, N0, e0⟩ (by decide) (by decide)
    show Steps p.tables e below (s₁.setTop (mkF m 5 #[.val (.int p0), .val (.int p1)] [])) _
    refine XS.iloadN X0.here hx rfl (hb hby own_d1_5) rfl ?_
    show Steps p.tables e below (s₁.setTop (mkF m 6 #[.val (.int p0), .val (.int p1)] [(.int p0)])) _
    refine XS.goto X0.here hx rfl (pc0 := 6) (pc' := 10) rfl (hb hby own_d1_6) (by decide) (by decide) ?_
    show Steps p.tables e below (s₁.setTop (mkF m 10 #[.val (.int p0), .val (.int p1)] [(.int p0)])) _
    exact retI X0 hx Bd.returns (hb hby own_d1_10) hr
theorem own_per (x : Int32) : 1 ≤ (own_f1_0 (1 : Int32) (x &&& (2147483647 : Int32))).toInt := by
  have h := c_mask x 2147483647 31 (by decide) (by decide)
  have e1 : (1 : Int32).toInt = 1 := rfl
  unfold own_f1_0
  simp only [Int32.lt_iff_toInt_lt]
  split <;> omega
theorem own_pnz (x : Int32) : own_f1_0 (1 : Int32) (x &&& (2147483647 : Int32)) ≠ 0 := fun q => by
  have h := own_per x
  rw [q] at h
  exact absurd h (by decide)
theorem own_pnz64 (x : Int32) : (own_f1_0 (1 : Int32) (x &&& (2147483647 : Int32))).toInt64 ≠ 0 := fun q => by
  have h := own_per x
  have g := congrArg Int64.toInt q
  rw [Int32.toInt_toInt64] at g
  rw [g] at h
  exact absurd h (by decide)
theorem own_p1 (x : Int32) : ¬ own_f1_0 (1 : Int32) (x &&& (2147483647 : Int32)) < (1 : Int32) := by
  have h := own_per x
  have e1 : (1 : Int32).toInt = 1 := rfl
  rw [Int32.lt_iff_toInt_lt]; omega
theorem own_cn (x : Int32) : ¬ (x &&& (2147483647 : Int32)) < (0 : Int32) := by
  have h := c_mask x 2147483647 31 (by decide) (by decide)
  have e1 : (0 : Int32).toInt = 0 := rfl
  rw [Int32.lt_iff_toInt_lt]; omega
theorem own_d3_0 : decode jdk_30_method_1_code 0 = .ok (.aload_n 0, 1) := by decide +kernel
theorem own_d3_1 : decode jdk_30_method_1_code 1 = .ok (.invokespecial 1, 3) := by decide +kernel
theorem own_d3_4 : decode jdk_30_method_1_code 4 = .ok (.return_, 1) := by decide +kernel
theorem own_pn0 : plainName "java/lang/Record" = true := by first | (simp [plainName, overriddenIn]; done) | decide +kernel
theorem own_ef3 (m : MethodId) (a0 : Addr) : entryFrame m #[(.ref a0)] 1 = mkF m 0 #[.val (.ref a0)] [] := by first | (simp [entryFrame, mkF, argsToLocals, Value.category]; done) | rfl
set_option maxRecDepth 65536 in
set_option maxHeartbeats 40000000 in
theorem own_rm3 (l : Launch) (Z : State) (aA : Array Value) (hw : ∀ d ∈ tables_1, d.before aA Z = true) (ws : List Jvm.Cond) (a0 : Addr)  (h0 : Heap) (n0 : Nat) (Z0 : n0 ≤ h0.size) :
    MetFree l (⟨"java/lang/Record", "<init>", "()V"⟩ : MethodName) (head1 (Jvm.Cond.code (⟨"java/lang/Record", "<init>", "()V"⟩ : MethodName) jdk_30_method_1_code 1 none :: ws) ({ frames := 1, cells := 0, slots := 0, locals := 12 } : Room)) (fun a U => a = #[(.ref a0)] ∧ Z.Warmed39 U.vm ∧ U.heap = h0) (fun _ _ _ _ _ => True) (fun _ U o U' => ∃ v L, o = .returned v ∧ (QN h0 n0) v U'.heap L ∧ FrameEnd U o U' L ({ frames := 1, cells := 0, slots := 0, locals := 12 } : Room).cells ({ frames := 1, cells := 0, slots := 0, locals := 12 } : Room).slots) := by
  refine MetFree.of_bodySF (plainFor_of_name own_pn0) hisR ?_
  intro p e s m args below meth c s₁ Bd hml0 hP hK
  obtain ⟨rfl, hZ, hh⟩ := hP
  have hx := Bd.exec
  have hby := Bd.bytes
  have hml : c.maxLocals = 1 := hml0
  have hown : s.vm.findClass "java/lang/Record" = some m.cls := findClass_of_methodNamed Bd.named
  have hnm := (name_of_methodNamed Bd.named Bd.method).1
  have X0 : Stand p l e ({ frames := 1, cells := 0, slots := 0, locals := 12 } : Room) s m #[(.ref a0)] below meth c s₁ [] 0 0 := Stand.of_body Bd
  have e0 : s₁.heap = h0 := by rw [← hh, Bd.state]; rfl
  have N0 := Fr.nil n0
  refine Owe.step (T := s₁) (T' := s₁) (g' := (mkF m 0 #[.val (.ref a0)] [])) (fun t k => castTop (own_ef3 m a0) k) ?_
  obtain ⟨T1, X1, e1, st1⟩ := initO X0 hx hZ hown (hw _ (List.mem_of_getElem? (i := 18) rfl)) (hw _ (List.mem_of_getElem? (i := 19) rfl)) (hw _ (List.mem_of_getElem? (i := 20) rfl)) e0 (g := (mkF m 1 #[.val (.ref a0)] [(.ref a0)])) rfl (by rw [hml]; rfl) rfl (hb hby own_d3_1) (by decide) (W := 0) (by show 2 * 0 + _ ≤ _; exact Nat.le_of_eq rfl) (by decide)
  refine Owe.step (T' := T1) (g' := (mkF m 4 #[.val (.ref a0)] [])) (fun t k => ?_) ?_
  · show Steps p.tables e below (s₁.setTop (mkF m 0 #[.val (.ref a0)] [])) t
    refine XS.aloadN X0.here hx rfl (hb hby own_d3_0) rfl rfl ?_
    show Steps p.tables e below (s₁.setTop (mkF m 1 #[.val (.ref a0)] [(.ref a0)])) t
    refine st1 _ ?_
    show Steps p.tables e below (T1.setTop (mkF m 4 #[.val (.ref a0)] [])) t
    exact k
  refine Owe.ret X1 Bd.notSynchronized (v := none) (fun _ => rfl) (fun fs hr => ?_) ⟨rfl, N0, e1⟩ (by decide) (by decide)
  show Steps p.tables e below (T1.setTop (mkF m 4 #[.val (.ref a0)] [])) _
  exact X1.returnOut hx Bd.returns (hb hby own_d3_4) hr
theorem own_d2_0 : decode prog_20_method_1_code 0 = .ok (.aload_n 0, 1) := by decide +kernel
theorem own_d2_1 : decode prog_20_method_1_code 1 = .ok (.invokespecial 1, 3) := by decide +kernel
theorem own_d2_4 : decode prog_20_method_1_code 4 = .ok (.iload_n 2, 1) := by decide +kernel
theorem own_d2_5 : decode prog_20_method_1_code 5 = .ok (.iconst 1, 1) := by decide +kernel
theorem own_d2_6 : decode prog_20_method_1_code 6 = .ok (.if_icmp .lt 7, 3) := by decide +kernel
theorem own_d2_9 : decode prog_20_method_1_code 9 = .ok (.iload_n 3, 1) := by decide +kernel
theorem own_d2_10 : decode prog_20_method_1_code 10 = .ok (.ifCond .ge 18, 3) := by decide +kernel
theorem own_d2_28 : decode prog_20_method_1_code 28 = .ok (.aload_n 0, 1) := by decide +kernel
theorem own_d2_29 : decode prog_20_method_1_code 29 = .ok (.iload_n 1, 1) := by decide +kernel
theorem own_d2_30 : decode prog_20_method_1_code 30 = .ok (.putfield 16, 3) := by decide +kernel
theorem own_d2_33 : decode prog_20_method_1_code 33 = .ok (.aload_n 0, 1) := by decide +kernel
theorem own_d2_34 : decode prog_20_method_1_code 34 = .ok (.iload_n 2, 1) := by decide +kernel
theorem own_d2_35 : decode prog_20_method_1_code 35 = .ok (.putfield 22, 3) := by decide +kernel
theorem own_d2_38 : decode prog_20_method_1_code 38 = .ok (.aload_n 0, 1) := by decide +kernel
theorem own_d2_39 : decode prog_20_method_1_code 39 = .ok (.iload_n 3, 1) := by decide +kernel
theorem own_d2_40 : decode prog_20_method_1_code 40 = .ok (.putfield 25, 3) := by decide +kernel
theorem own_d2_43 : decode prog_20_method_1_code 43 = .ok (.aload_n 0, 1) := by decide +kernel
theorem own_d2_44 : decode prog_20_method_1_code 44 = .ok (.iload 4, 2) := by decide +kernel
theorem own_d2_46 : decode prog_20_method_1_code 46 = .ok (.putfield 28, 3) := by decide +kernel
theorem own_d2_49 : decode prog_20_method_1_code 49 = .ok (.return_, 1) := by decide +kernel
theorem own_pd0 : parseMethodDescriptor "()V" = some ⟨[], none⟩ := by decide +kernel
theorem own_pn1 : plainName "com/example/rasterline/rasterline/ReadArea$Axis" = true := by first | (simp [plainName, overriddenIn]; done) | decide +kernel
theorem own_ef2 (m : MethodId) (a0 : Addr) (p1 : Int32) (p2 : Int32) (p3 : Int32) (p4 : Int32) : entryFrame m #[(.ref a0), (.int p1), (.int p2), (.int p3), (.int p4)] 5 = mkF m 0 #[.val (.ref a0), .val (.int p1), .val (.int p2), .val (.int p3), .val (.int p4)] [] := by first | (simp [entryFrame, mkF, argsToLocals, Value.category]; done) | rfl
def own_Q2 (Z : State) (a0 : Addr) (p1 : Int32) (p2 : Int32) (p3 : Int32) (p4 : Int32) (h0 : Heap) (n0 : Nat) (v : Option Value) (h : Heap) (L : List Loc) : Prop := v = none ∧ Fr n0 L ∧ Keep h0 h [a0] ∧ Exa Z h a0 "com/example/rasterline/rasterline/ReadArea$Axis" ∧ Fld Z h a0 "com/example/rasterline/rasterline/ReadArea$Axis" "first" "I" (.int p1) ∧ Fld Z h a0 "com/example/rasterline/rasterline/ReadArea$Axis" "period" "I" (.int p2) ∧ Fld Z h a0 "com/example/rasterline/rasterline/ReadArea$Axis" "count" "I" (.int p3) ∧ Fld Z h a0 "com/example/rasterline/rasterline/ReadArea$Axis" "destination" "I" (.int p4)
set_option maxRecDepth 65536 in
set_option maxHeartbeats 40000000 in
theorem own_rm2 (l : Launch) (Z : State) (aA : Array Value) (hw : ∀ d ∈ tables_1, d.before aA Z = true) (ws : List Jvm.Cond) (a0 : Addr) (p1 : Int32) (p2 : Int32) (p3 : Int32) (p4 : Int32)  (h0 : Heap) (n0 : Nat) (Z0 : n0 ≤ h0.size) (E_a0 : Exa Z h0 a0 "com/example/rasterline/rasterline/ReadArea$Axis") (F_first : Fld Z h0 a0 "com/example/rasterline/rasterline/ReadArea$Axis" "first" "I" (.int (0 : Int32))) (F_period : Fld Z h0 a0 "com/example/rasterline/rasterline/ReadArea$Axis" "period" "I" (.int (0 : Int32))) (F_count : Fld Z h0 a0 "com/example/rasterline/rasterline/ReadArea$Axis" "count" "I" (.int (0 : Int32))) (F_destination : Fld Z h0 a0 "com/example/rasterline/rasterline/ReadArea$Axis" "destination" "I" (.int (0 : Int32))) (g_a0 : n0 ≤ a0) (hp1 : ¬ p2 < (1 : Int32)) (hp2 : ¬ p3 < (0 : Int32)) :
    MetFree l (⟨"com/example/rasterline/rasterline/ReadArea$Axis", "<init>", "(IIII)V"⟩ : MethodName) (head1 (Jvm.Cond.code (⟨"com/example/rasterline/rasterline/ReadArea$Axis", "<init>", "(IIII)V"⟩ : MethodName) prog_20_method_1_code 5 none :: ws) ({ frames := 2, cells := 0, slots := 0, locals := 24 } : Room)) (fun a U => a = #[(.ref a0), (.int p1), (.int p2), (.int p3), (.int p4)] ∧ Z.Warmed39 U.vm ∧ U.heap = h0) (fun _ _ _ _ _ => True) (fun _ U o U' => ∃ v L, o = .returned v ∧ (own_Q2 Z a0 p1 p2 p3 p4 h0 n0) v U'.heap L ∧ FrameEnd U o U' L ({ frames := 2, cells := 0, slots := 0, locals := 24 } : Room).cells ({ frames := 2, cells := 0, slots := 0, locals := 24 } : Room).slots) := by
  refine MetFree.of_bodySF (plainFor_of_name own_pn1) hisR ?_
  intro p e s m args below meth c s₁ Bd hml0 hP hK
  obtain ⟨rfl, hZ, hh⟩ := hP
  have hx := Bd.exec
  have hby := Bd.bytes
  have hml : c.maxLocals = 5 := hml0
  have hown : s.vm.findClass "com/example/rasterline/rasterline/ReadArea$Axis" = some m.cls := findClass_of_methodNamed Bd.named
  have hnm := (name_of_methodNamed Bd.named Bd.method).1
  have X0 : Stand p l e ({ frames := 2, cells := 0, slots := 0, locals := 24 } : Room) s m #[(.ref a0), (.int p1), (.int p2), (.int p3), (.int p4)] below meth c s₁ [] 0 0 := Stand.of_body Bd
  have e0 : s₁.heap = h0 := by rw [← hh, Bd.state]; rfl
  have N0 := Fr.nil n0
  refine Owe.step (T := s₁) (T' := s₁) (g' := (mkF m 0 #[.val (.ref a0), .val (.int p1), .val (.int p2), .val (.int p3), .val (.int p4)] [])) (fun t k => castTop (own_ef2 m a0 p1 p2 p3 p4) k) ?_
  obtain ⟨_, _, ⟨T1, L1, k1, n1⟩, -, X1, ⟨Lc1, hQ1, l1, y1, z1⟩, st1⟩ := X0.specialBack hx (y := (⟨"java/lang/Record", "<init>", "()V"⟩ : MethodName)) rfl hown (mvT hZ (hw _ (List.mem_of_getElem? (i := 13) rfl))) (mvT hZ (hw _ (List.mem_of_getElem? (i := 14) rfl))) (mvT hZ (hw _ (List.mem_of_getElem? (i := 17) rfl))) (by decide) (backOf (W := 0) (own_rm3 l Z aA hw [] a0 h0 n0 Z0 ) hZ (hw _ (List.mem_of_getElem? (i := 17) rfl)) (hw _ (List.mem_of_getElem? (i := 16) rfl)) (by decide) (by decide)) (g := (mkF m 1 #[.val (.ref a0), .val (.int p1), .val (.int p2), .val (.int p3), .val (.int p4)] [(.ref a0)])) rfl (by rw [hml]; rfl) (Steps.refl _) (a := a0) (argsL := []) (rest := []) (lenOf own_pd0 rfl) rfl (by show 2 * 0 + _ ≤ _; exact Nat.le_of_eq rfl) (hb hby own_d2_1) (fun _ _ => ⟨rfl, e0, (by decide : 0 + 0 ≤ _), (by decide : 0 + 0 ≤ _)⟩)
  dsimp only [Pt.U, Pt.locs, Pt.cells, Pt.slots] at X1 l1 y1 z1 st1 hQ1
  subst l1 y1 z1
  obtain ⟨rfl, N1q, e1⟩ := hQ1
  have N1 := Fr.app N0 N1q
  obtain ⟨T2, h2, X2, e2, W2, st2⟩ := putF X1 hx hZ hown (host := "") (Or.inl (hw _ (List.mem_of_getElem? (i := 21) rfl))) Via.refl e1 F_first E_a0 (Or.inr ⟨(hw _ (List.mem_of_getElem? (i := 22) rfl)), rfl, hnm⟩) (hw _ (List.mem_of_getElem? (i := 8) rfl)) (ty := .int) (by decide) rfl rfl (g := (mkF m 30 #[.val (.ref a0), .val (.int p1), .val (.int p2), .val (.int p3), .val (.int p4)] [(.int p1), (.ref a0)])) rfl rfl (hb hby own_d2_30)
  have Fn2 := F_first.same W2
  have E_a0_w2 := E_a0.wr W2
  have F_period_w2 := F_period.other W2 (Or.inr (slot_ne (Or.inr (hw _ (List.mem_of_getElem? (i := 24) rfl))) (Or.inr (hw _ (List.mem_of_getElem? (i := 22) rfl))) (by decide) (t := .int) (t' := .int) (by decide) (by decide)))
  have F_count_w2 := F_count.other W2 (Or.inr (slot_ne (Or.inr (hw _ (List.mem_of_getElem? (i := 26) rfl))) (Or.inr (hw _ (List.mem_of_getElem? (i := 22) rfl))) (by decide) (t := .int) (t' := .int) (by decide) (by decide)))
  have F_destination_w2 := F_destination.other W2 (Or.inr (slot_ne (Or.inr (hw _ (List.mem_of_getElem? (i := 28) rfl))) (Or.inr (hw _ (List.mem_of_getElem? (i := 22) rfl))) (by decide) (t := .int) (t' := .int) (by decide) (by decide)))
  have K2 := (Keep.refl h0 [a0]).wr W2 (Or.inl (List.mem_of_getElem? (i := 0) rfl))
  have N2 := Fr.snoc X2 N1 g_a0
  have Zn2 : n0 ≤ h2.size := Nat.le_trans Z0 (Keep.of_wr W2).1
  obtain ⟨T3, h3, X3, e3, W3, st3⟩ := putF X2 hx hZ hown (host := "") (Or.inl (hw _ (List.mem_of_getElem? (i := 23) rfl))) Via.refl e2 F_period_w2 E_a0_w2 (Or.inr ⟨(hw _ (List.mem_of_getElem? (i := 24) rfl)), rfl, hnm⟩) (hw _ (List.mem_of_getElem? (i := 8) rfl)) (ty := .int) (by decide) rfl rfl (g := (mkF m 35 #[.val (.ref a0), .val (.int p1), .val (.int p2), .val (.int p3), .val (.int p4)] [(.int p2), (.ref a0)])) rfl rfl (hb hby own_d2_35)
  have Fn3 := F_period_w2.same W3
  have E_a0_w3 := E_a0_w2.wr W3
  have F_count_w3 := F_count_w2.other W3 (Or.inr (slot_ne (Or.inr (hw _ (List.mem_of_getElem? (i := 26) rfl))) (Or.inr (hw _ (List.mem_of_getElem? (i := 24) rfl))) (by decide) (t := .int) (t' := .int) (by decide) (by decide)))
  have F_destination_w3 := F_destination_w2.other W3 (Or.inr (slot_ne (Or.inr (hw _ (List.mem_of_getElem? (i := 28) rfl))) (Or.inr (hw _ (List.mem_of_getElem? (i := 24) rfl))) (by decide) (t := .int) (t' := .int) (by decide) (by decide)))
  have Fn2_w3 := Fn2.other W3 (Or.inr (slot_ne (Or.inr (hw _ (List.mem_of_getElem? (i := 22) rfl))) (Or.inr (hw _ (List.mem_of_getElem? (i := 24) rfl))) (by decide) (t := .int) (t' := .int) (by decide) (by decide)))
  have K3 := K2.wr W3 (Or.inl (List.mem_of_getElem? (i := 0) rfl))
  have N3 := Fr.snoc X3 N2 g_a0
  have Zn3 : n0 ≤ h3.size := Nat.le_trans Zn2 (Keep.of_wr W3).1
  obtain ⟨T4, h4, X4, e4, W4, st4⟩ := putF X3 hx hZ hown (host := "") (Or.inl (hw _ (List.mem_of_getElem? (i := 25) rfl))) Via.refl e3 F_count_w3 E_a0_w3 (Or.inr ⟨(hw _ (List.mem_of_getElem? (i := 26) rfl)), rfl, hnm⟩) (hw _ (List.mem_of_getElem? (i := 8) rfl)) (ty := .int) (by decide) rfl rfl (g := (mkF m 40 #[.val (.ref a0), .val (.int p1), .val (.int p2), .val (.int p3), .val (.int p4)] [(.int p3), (.ref a0)])) rfl rfl (hb hby own_d2_40)
  have Fn4 := F_count_w3.same W4
  have E_a0_w4 := E_a0_w3.wr W4
  have F_destination_w4 := F_destination_w3.other W4 (Or.inr (slot_ne (Or.inr (hw _ (List.mem_of_getElem? (i := 28) rfl))) (Or.inr (hw _ (List.mem_of_getElem? (i := 26) rfl))) (by decide) (t := .int) (t' := .int) (by decide) (by decide)))
  have Fn2_w4 := Fn2_w3.other W4 (Or.inr (slot_ne (Or.inr (hw _ (List.mem_of_getElem? (i := 22) rfl))) (Or.inr (hw _ (List.mem_of_getElem? (i := 26) rfl))) (by decide) (t := .int) (t' := .int) (by decide) (by decide)))
  have Fn3_w4 := Fn3.other W4 (Or.inr (slot_ne (Or.inr (hw _ (List.mem_of_getElem? (i := 24) rfl))) (Or.inr (hw _ (List.mem_of_getElem? (i := 26) rfl))) (by decide) (t := .int) (t' := .int) (by decide) (by decide)))
  have K4 := K3.wr W4 (Or.inl (List.mem_of_getElem? (i := 0) rfl))
  have N4 := Fr.snoc X4 N3 g_a0
  have Zn4 : n0 ≤ h4.size := Nat.le_trans Zn3 (Keep.of_wr W4).1
  obtain ⟨T5, h5, X5, e5, W5, st5⟩ := putF X4 hx hZ hown (host := "") (Or.inl (hw _ (List.mem_of_getElem? (i := 27) rfl))) Via.refl e4 F_destination_w4 E_a0_w4 (Or.inr ⟨(hw _ (List.mem_of_getElem? (i := 28) rfl)), rfl, hnm⟩) (hw _ (List.mem_of_getElem? (i := 8) rfl)) (ty := .int) (by decide) rfl rfl (g := (mkF m 46 #[.val (.ref a0), .val (.int p1), .val (.int p2), .val (.int p3), .val (.int p4)] [(.int p4), (.ref a0)])) rfl rfl (hb hby own_d2_46)
  have Fn5 := F_destination_w4.same W5
  have E_a0_w5 := E_a0_w4.wr W5
  have Fn2_w5 := Fn2_w4.other W5 (Or.inr (slot_ne (Or.inr (hw _ (List.mem_of_getElem? (i := 22) rfl))) (Or.inr (hw _ (List.mem_of_getElem? (i := 28) rfl))) (by decide) (t := .int) (t' := .int) (by decide) (by decide)))
  have Fn3_w5 := Fn3_w4.other W5 (Or.inr (slot_ne (Or.inr (hw _ (List.mem_of_getElem? (i := 24) rfl))) (Or.inr (hw _ (List.mem_of_getElem? (i := 28) rfl))) (by decide) (t := .int) (t' := .int) (by decide) (by decide)))
  have Fn4_w5 := Fn4.other W5 (Or.inr (slot_ne (Or.inr (hw _ (List.mem_of_getElem? (i := 26) rfl))) (Or.inr (hw _ (List.mem_of_getElem? (i := 28) rfl))) (by decide) (t := .int) (t' := .int) (by decide) (by decide)))
  have K5 := K4.wr W5 (Or.inl (List.mem_of_getElem? (i := 0) rfl))
  have N5 := Fr.snoc X5 N4 g_a0
  have Zn5 : n0 ≤ h5.size := Nat.le_trans Zn4 (Keep.of_wr W5).1
  refine Owe.step (T' := T5) (g' := (mkF m 49 #[.val (.ref a0), .val (.int p1), .val (.int p2), .val (.int p3), .val (.int p4)] [])) (fun t k => ?_) ?_
  · show Steps p.tables e below (s₁.setTop (mkF m 0 #[.val (.ref a0), .val (.int p1), .val (.int p2), .val (.int p3), .val (.int p4)] [])) t
    refine XS.aloadN X0.here hx rfl (hb hby own_d2_0) rfl rfl ?_
    show Steps p.tables e below (s₁.setTop (mkF m 1 #[.val (.ref a0), .val (.int p1), .val (.int p2), .val (.int p3), .val (.int p4)] [(.ref a0)])) t
    refine st1.trans ?_
    show Steps p.tables e below (T1.setTop (mkF m 4 #[.val (.ref a0), .val (.int p1), .val (.int p2), .val (.int p3), .val (.int p4)] [])) t
    refine XS.iloadN X1.here hx rfl (hb hby own_d2_4) rfl ?_
    show Steps p.tables e below (T1.setTop (mkF m 5 #[.val (.ref a0), .val (.int p1), .val (.int p2), .val (.int p3), .val (.int p4)] [(.int p2)])) t
    refine XS.iconst X1.here hx rfl (hb hby own_d2_5) ?_
    show Steps p.tables e below (T1.setTop (mkF m 6 #[.val (.ref a0), .val (.int p1), .val (.int p2), .val (.int p3), .val (.int p4)] [(.int (1 : Int32)), (.int p2)])) t
    refine XS.icmpNo X1.here hx rfl (hb hby own_d2_6) rfl (flt hp1).1 ?_
    show Steps p.tables e below (T1.setTop (mkF m 9 #[.val (.ref a0), .val (.int p1), .val (.int p2), .val (.int p3), .val (.int p4)] [])) t
    refine XS.iloadN X1.here hx rfl (hb hby own_d2_9) rfl ?_
    show Steps p.tables e below (T1.setTop (mkF m 10 #[.val (.ref a0), .val (.int p1), .val (.int p2), .val (.int p3), .val (.int p4)] [(.int p3)])) t
    refine XS.ifYes X1.here hx rfl (pc0 := 10) (pc' := 28) rfl (hb hby own_d2_10) rfl ((if0 _ _).trans (flt hp2).2.1) (by decide) (by decide) ?_
    show Steps p.tables e below (T1.setTop (mkF m 28 #[.val (.ref a0), .val (.int p1), .val (.int p2), .val (.int p3), .val (.int p4)] [])) t
    refine XS.aloadN X1.here hx rfl (hb hby own_d2_28) rfl rfl ?_
    show Steps p.tables e below (T1.setTop (mkF m 29 #[.val (.ref a0), .val (.int p1), .val (.int p2), .val (.int p3), .val (.int p4)] [(.ref a0)])) t
    refine XS.iloadN X1.here hx rfl (hb hby own_d2_29) rfl ?_
    show Steps p.tables e below (T1.setTop (mkF m 30 #[.val (.ref a0), .val (.int p1), .val (.int p2), .val (.int p3), .val (.int p4)] [(.int p1), (.ref a0)])) t
    refine st2 _ ?_
    show Steps p.tables e below (T2.setTop (mkF m 33 #[.val (.ref a0), .val (.int p1), .val (.int p2), .val (.int p3), .val (.int p4)] [])) t
    refine XS.aloadN X2.here hx rfl (hb hby own_d2_33) rfl rfl ?_
    show Steps p.tables e below (T2.setTop (mkF m 34 #[.val (.ref a0), .val (.int p1), .val (.int p2), .val (.int p3), .val (.int p4)] [(.ref a0)])) t
    refine XS.iloadN X2.here hx rfl (hb hby own_d2_34) rfl ?_
    show Steps p.tables e below (T2.setTop (mkF m 35 #[.val (.ref a0), .val (.int p1), .val (.int p2), .val (.int p3), .val (.int p4)] [(.int p2), (.ref a0)])) t
    refine st3 _ ?_
    show Steps p.tables e below (T3.setTop (mkF m 38 #[.val (.ref a0), .val (.int p1), .val (.int p2), .val (.int p3), .val (.int p4)] [])) t
    refine XS.aloadN X3.here hx rfl (hb hby own_d2_38) rfl rfl ?_
    show Steps p.tables e below (T3.setTop (mkF m 39 #[.val (.ref a0), .val (.int p1), .val (.int p2), .val (.int p3), .val (.int p4)] [(.ref a0)])) t
    refine XS.iloadN X3.here hx rfl (hb hby own_d2_39) rfl ?_
    show Steps p.tables e below (T3.setTop (mkF m 40 #[.val (.ref a0), .val (.int p1), .val (.int p2), .val (.int p3), .val (.int p4)] [(.int p3), (.ref a0)])) t
    refine st4 _ ?_
    show Steps p.tables e below (T4.setTop (mkF m 43 #[.val (.ref a0), .val (.int p1), .val (.int p2), .val (.int p3), .val (.int p4)] [])) t
    refine XS.aloadN X4.here hx rfl (hb hby own_d2_43) rfl rfl ?_
    show Steps p.tables e below (T4.setTop (mkF m 44 #[.val (.ref a0), .val (.int p1), .val (.int p2), .val (.int p3), .val (.int p4)] [(.ref a0)])) t
    refine XS.iload X4.here hx rfl (hb hby own_d2_44) rfl ?_
    show Steps p.tables e below (T4.setTop (mkF m 46 #[.val (.ref a0), .val (.int p1), .val (.int p2), .val (.int p3), .val (.int p4)] [(.int p4), (.ref a0)])) t
    refine st5 _ ?_
    show Steps p.tables e below (T5.setTop (mkF m 49 #[.val (.ref a0), .val (.int p1), .val (.int p2), .val (.int p3), .val (.int p4)] [])) t
    exact k
  refine Owe.ret X5 Bd.notSynchronized (v := none) (fun _ => rfl) (fun fs hr => ?_) (by rw [e5]; exact ⟨rfl, N5, K5, E_a0_w5, Fn2_w5, Fn3_w5, Fn4_w5, Fn5⟩) (by decide) (by decide)
  show Steps p.tables e below (T5.setTop (mkF m 49 #[.val (.ref a0), .val (.int p1), .val (.int p2), .val (.int p3), .val (.int p4)] [])) _
  exact X5.returnOut hx Bd.returns (hb hby own_d2_49) hr
theorem own_d5_0 : decode prog_20_method_4_code 0 = .ok (.iload_n 1, 1) := by decide +kernel
theorem own_d5_1 : decode prog_20_method_4_code 1 = .ok (.i2l, 1) := by decide +kernel
theorem own_d5_2 : decode prog_20_method_4_code 2 = .ok (.aload_n 0, 1) := by decide +kernel
theorem own_d5_3 : decode prog_20_method_4_code 3 = .ok (.getfield 16, 3) := by decide +kernel
theorem own_d5_6 : decode prog_20_method_4_code 6 = .ok (.i2l, 1) := by decide +kernel
theorem own_d5_7 : decode prog_20_method_4_code 7 = .ok (.lsub, 1) := by decide +kernel
theorem own_d5_8 : decode prog_20_method_4_code 8 = .ok (.lstore_n 2, 1) := by decide +kernel
theorem own_d5_9 : decode prog_20_method_4_code 9 = .ok (.lload_n 2, 1) := by decide +kernel
theorem own_d5_10 : decode prog_20_method_4_code 10 = .ok (.lconst 0, 1) := by decide +kernel
theorem own_d5_11 : decode prog_20_method_4_code 11 = .ok (.lcmp, 1) := by decide +kernel
theorem own_d5_12 : decode prog_20_method_4_code 12 = .ok (.ifCond .lt 31, 3) := by decide +kernel
theorem own_d5_15 : decode prog_20_method_4_code 15 = .ok (.lload_n 2, 1) := by decide +kernel
theorem own_d5_16 : decode prog_20_method_4_code 16 = .ok (.aload_n 0, 1) := by decide +kernel
theorem own_d5_17 : decode prog_20_method_4_code 17 = .ok (.getfield 22, 3) := by decide +kernel
theorem own_d5_20 : decode prog_20_method_4_code 20 = .ok (.i2l, 1) := by decide +kernel
theorem own_d5_21 : decode prog_20_method_4_code 21 = .ok (.lrem, 1) := by decide +kernel
theorem own_d5_22 : decode prog_20_method_4_code 22 = .ok (.lconst 0, 1) := by decide +kernel
theorem own_d5_23 : decode prog_20_method_4_code 23 = .ok (.lcmp, 1) := by decide +kernel
theorem own_d5_24 : decode prog_20_method_4_code 24 = .ok (.ifCond .ne 19, 3) := by decide +kernel
theorem own_d5_27 : decode prog_20_method_4_code 27 = .ok (.lload_n 2, 1) := by decide +kernel
theorem own_d5_28 : decode prog_20_method_4_code 28 = .ok (.aload_n 0, 1) := by decide +kernel
theorem own_d5_29 : decode prog_20_method_4_code 29 = .ok (.getfield 22, 3) := by decide +kernel
theorem own_d5_32 : decode prog_20_method_4_code 32 = .ok (.i2l, 1) := by decide +kernel
theorem own_d5_33 : decode prog_20_method_4_code 33 = .ok (.ldiv, 1) := by decide +kernel
theorem own_d5_34 : decode prog_20_method_4_code 34 = .ok (.aload_n 0, 1) := by decide +kernel
theorem own_d5_35 : decode prog_20_method_4_code 35 = .ok (.getfield 25, 3) := by decide +kernel
theorem own_d5_38 : decode prog_20_method_4_code 38 = .ok (.i2l, 1) := by decide +kernel
theorem own_d5_39 : decode prog_20_method_4_code 39 = .ok (.lcmp, 1) := by decide +kernel
theorem own_d5_40 : decode prog_20_method_4_code 40 = .ok (.ifCond .lt 5, 3) := by decide +kernel
theorem own_d5_43 : decode prog_20_method_4_code 43 = .ok (.iconst (-1), 1) := by decide +kernel
theorem own_d5_44 : decode prog_20_method_4_code 44 = .ok (.ireturn, 1) := by decide +kernel
theorem own_d5_45 : decode prog_20_method_4_code 45 = .ok (.aload_n 0, 1) := by decide +kernel
theorem own_d5_46 : decode prog_20_method_4_code 46 = .ok (.getfield 28, 3) := by decide +kernel
theorem own_d5_49 : decode prog_20_method_4_code 49 = .ok (.lload_n 2, 1) := by decide +kernel
theorem own_d5_50 : decode prog_20_method_4_code 50 = .ok (.aload_n 0, 1) := by decide +kernel
theorem own_d5_51 : decode prog_20_method_4_code 51 = .ok (.getfield 22, 3) := by decide +kernel
theorem own_d5_54 : decode prog_20_method_4_code 54 = .ok (.i2l, 1) := by decide +kernel
theorem own_d5_55 : decode prog_20_method_4_code 55 = .ok (.ldiv, 1) := by decide +kernel
theorem own_d5_56 : decode prog_20_method_4_code 56 = .ok (.l2i, 1) := by decide +kernel
theorem own_d5_57 : decode prog_20_method_4_code 57 = .ok (.iadd, 1) := by decide +kernel
theorem own_d5_58 : decode prog_20_method_4_code 58 = .ok (.ireturn, 1) := by decide +kernel
theorem own_ef5 (m : MethodId) (a0 : Addr) (p1 : Int32) : entryFrame m #[(.ref a0), (.int p1)] 4 = mkF m 0 #[.val (.ref a0), .val (.int p1), .unset, .unset] [] := by first | (simp [entryFrame, mkF, argsToLocals, Value.category]; done) | rfl
def own_f5_0 (p1 : Int32) (w1 : Int32) (w2 : Int32) (w3 : Int32) (w4 : Int32) : Int32 := (if (lcmpW ((p1.toInt64) - (w1.toInt64)) (0 : Int64)) < (0 : Int32) then (-1 : Int32) else (if (lcmpW (((p1.toInt64) - (w1.toInt64)) - (((p1.toInt64) - (w1.toInt64)) / (w2.toInt64)) * (w2.toInt64)) (0 : Int64)) = (0 : Int32) then (if (lcmpW (((p1.toInt64) - (w1.toInt64)) / (w2.toInt64)) (w3.toInt64)) < (0 : Int32) then (w4 + ((((p1.toInt64) - (w1.toInt64)) / (w2.toInt64)).toInt32)) else (-1 : Int32)) else (-1 : Int32)))
set_option maxRecDepth 65536 in
set_option maxHeartbeats 40000000 in
theorem own_rm5 (l : Launch) (Z : State) (aA : Array Value) (hw : ∀ d ∈ tables_1, d.before aA Z = true) (ws : List Jvm.Cond) (a0 : Addr) (p1 : Int32) (w1 : Int32) (w2 : Int32) (w3 : Int32) (w4 : Int32) (h0 : Heap) (n0 : Nat) (Z0 : n0 ≤ h0.size) (F0 : Fld Z h0 a0 "com/example/rasterline/rasterline/ReadArea$Axis" "first" "I" (.int w1)) (F1 : Fld Z h0 a0 "com/example/rasterline/rasterline/ReadArea$Axis" "period" "I" (.int w2)) (F2 : Fld Z h0 a0 "com/example/rasterline/rasterline/ReadArea$Axis" "count" "I" (.int w3)) (F3 : Fld Z h0 a0 "com/example/rasterline/rasterline/ReadArea$Axis" "destination" "I" (.int w4)) (hnz : w2.toInt64 ≠ 0) :
    MetFree l (⟨"com/example/rasterline/rasterline/ReadArea$Axis", "destinationOf", "(I)I"⟩ : MethodName) (head1 (Jvm.Cond.code (⟨"com/example/rasterline/rasterline/ReadArea$Axis", "destinationOf", "(I)I"⟩ : MethodName) prog_20_method_4_code 4 (some .int) :: ws) ({ frames := 0, cells := 0, slots := 0, locals := 0 } : Room)) (fun a U => a = #[(.ref a0), (.int p1)] ∧ Z.Warmed39 U.vm ∧ U.heap = h0) (fun _ _ _ _ _ => True) (fun _ U o U' => ∃ v L, o = .returned v ∧ (QP (.int (own_f5_0 p1 w1 w2 w3 w4)) h0 n0) v U'.heap L ∧ FrameEnd U o U' L ({ frames := 0, cells := 0, slots := 0, locals := 0 } : Room).cells ({ frames := 0, cells := 0, slots := 0, locals := 0 } : Room).slots) := by
  refine MetFree.of_bodySF (plainFor_of_name own_pn1) hisR ?_
  intro p e s m args below meth c s₁ Bd hml0 hP hK
  obtain ⟨rfl, hZ, hh⟩ := hP
  have hx := Bd.exec
  have hby := Bd.bytes
  have hml : c.maxLocals = 4 := hml0
  have hown : s.vm.findClass "com/example/rasterline/rasterline/ReadArea$Axis" = some m.cls := findClass_of_methodNamed Bd.named
  have hnm := (name_of_methodNamed Bd.named Bd.method).1
  have X0 : Stand p l e ({ frames := 0, cells := 0, slots := 0, locals := 0 } : Room) s m #[(.ref a0), (.int p1)] below meth c s₁ [] 0 0 := Stand.of_body Bd
  have e0 : s₁.heap = h0 := by rw [← hh, Bd.state]; rfl
  have N0 := Fr.nil n0
  refine Owe.step (T := s₁) (T' := s₁) (g' := (mkF m 0 #[.val (.ref a0), .val (.int p1), .unset, .unset] [])) (fun t k => castTop (own_ef5 m a0 p1) k) ?_
  obtain ⟨T1, X1, e1, st1⟩ := getF X0 hx hZ hown (host := "") (Or.inl (hw _ (List.mem_of_getElem? (i := 21) rfl))) Via.refl e0 F0 (g := (mkF m 3 #[.val (.ref a0), .val (.int p1), .unset, .unset] [(.ref a0), (.long (p1.toInt64))])) rfl rfl (hb hby own_d5_3)
  refine Owe.step (T' := T1) (g' := (mkF m 12 #[.val (.ref a0), .val (.int p1), .val (.long ((p1.toInt64) - (w1.toInt64))), .second] [(.int (lcmpW ((p1.toInt64) - (w1.toInt64)) (0 : Int64)))])) (fun t k => ?_) ?_
  · show Steps p.tables e below (s₁.setTop (mkF m 0 #[.val (.ref a0), .val (.int p1), .unset, .unset] [])) t
    refine XS.iloadN X0.here hx rfl (hb hby own_d5_0) rfl ?_
    show Steps p.tables e below (s₁.setTop (mkF m 1 #[.val (.ref a0), .val (.int p1), .unset, .unset] [(.int p1)])) t
    refine XS.i2l X0.here hx rfl (hb hby own_d5_1) rfl ?_
    show Steps p.tables e below (s₁.setTop (mkF m 2 #[.val (.ref a0), .val (.int p1), .unset, .unset] [(.long (p1.toInt64))])) t
    refine XS.aloadN X0.here hx rfl (hb hby own_d5_2) rfl rfl ?_
    show Steps p.tables e below (s₁.setTop (mkF m 3 #[.val (.ref a0), .val (.int p1), .unset, .unset] [(.ref a0), (.long (p1.toInt64))])) t
    refine st1 _ ?_
    show Steps p.tables e below (T1.setTop (mkF m 6 #[.val (.ref a0), .val (.int p1), .unset, .unset] [(.int w1), (.long (p1.toInt64))])) t
    refine XS.i2l X1.here hx rfl (hb hby own_d5_6) rfl ?_
    show Steps p.tables e below (T1.setTop (mkF m 7 #[.val (.ref a0), .val (.int p1), .unset, .unset] [(.long (w1.toInt64)), (.long (p1.toInt64))])) t
    refine XS.lsub X1.here hx rfl (hb hby own_d5_7) rfl ?_
    show Steps p.tables e below (T1.setTop (mkF m 8 #[.val (.ref a0), .val (.int p1), .unset, .unset] [(.long ((p1.toInt64) - (w1.toInt64)))])) t
    refine XS.lstoreN X1.here hx rfl (hb hby own_d5_8) rfl (l' := #[.val (.ref a0), .val (.int p1), .val (.long ((p1.toInt64) - (w1.toInt64))), .second]) rfl ?_
    show Steps p.tables e below (T1.setTop (mkF m 9 #[.val (.ref a0), .val (.int p1), .val (.long ((p1.toInt64) - (w1.toInt64))), .second] [])) t
    refine XS.lloadN X1.here hx rfl (hb hby own_d5_9) rfl ?_
    show Steps p.tables e below (T1.setTop (mkF m 10 #[.val (.ref a0), .val (.int p1), .val (.long ((p1.toInt64) - (w1.toInt64))), .second] [(.long ((p1.toInt64) - (w1.toInt64)))])) t
    refine XS.lconst X1.here hx rfl (hb hby own_d5_10) ?_
    show Steps p.tables e below (T1.setTop (mkF m 11 #[.val (.ref a0), .val (.int p1), .val (.long ((p1.toInt64) - (w1.toInt64))), .second] [(.long (0 : Int64)), (.long ((p1.toInt64) - (w1.toInt64)))])) t
    refine XS.lcmp X1.here hx rfl (hb hby own_d5_11) rfl ?_
    show Steps p.tables e below (T1.setTop (mkF m 12 #[.val (.ref a0), .val (.int p1), .val (.long ((p1.toInt64) - (w1.toInt64))), .second] [(.int (lcmpW ((p1.toInt64) - (w1.toInt64)) (0 : Int64)))])) t
    exact k
  by_cases hc12 : (lcmpW ((p1.toInt64) - (w1.toInt64)) (0 : Int64)) < (0 : Int32)
  · refine Owe.step (T' := T1) (g' := (mkF m 43 #[.val (.ref a0), .val (.int p1), .val (.long ((p1.toInt64) - (w1.toInt64))), .second] [])) (fun t k => ?_) ?_
    · show Steps p.tables e below (T1.setTop (mkF m 12 #[.val (.ref a0), .val (.int p1), .val (.long ((p1.toInt64) - (w1.toInt64))), .second] [(.int (lcmpW ((p1.toInt64) - (w1.toInt64)) (0 : Int64)))])) t
      refine XS.ifYes X1.here hx rfl (pc0 := 12) (pc' := 43) rfl (hb hby own_d5_12) rfl ((if0 _ _).trans (tlt hc12).1) (by decide) (by decide) ?_
      show Steps p.tables e below (T1.setTop (mkF m 43 #[.val (.ref a0), .val (.int p1), .val (.long ((p1.toInt64) - (w1.toInt64))), .second] [])) t
      exact k
    rw [show own_f5_0 p1 w1 w2 w3 w4 = (-1 : Int32) from (by rw [own_f5_0, if_pos hc12])]
    refine Owe.ret X1 Bd.notSynchronized (v := (some (.int (-1 : Int32)))) (fun h => by rw [Bd.returns] at h; cases h) (fun fs hr => ?_) ⟨rfl, N0, e1⟩ (by decide) (by decide)
    show Steps p.tables e below (T1.setTop (mkF m 43 #[.val (.ref a0), .val (.int p1), .val (.long ((p1.toInt64) - (w1.toInt64))), .second] [])) _
    refine XS.iconst X1.here hx rfl (hb hby own_d5_43) ?_
    show Steps p.tables e below (T1.setTop (mkF m 44 #[.val (.ref a0), .val (.int p1), .val (.long ((p1.toInt64) - (w1.toInt64))), .second] [(.int (-1 : Int32))])) _
    exact retI X1 hx Bd.returns (hb hby own_d5_44) hr
  · refine Owe.step (T' := T1) (g' := (mkF m 15 #[.val (.ref a0), .val (.int p1), .val (.long ((p1.toInt64) - (w1.toInt64))), .second] [])) (fun t k => ?_) ?_
    · show Steps p.tables e below (T1.setTop (mkF m 12 #[.val (.ref a0), .val (.int p1), .val (.long ((p1.toInt64) - (w1.toInt64))), .second] [(.int (lcmpW ((p1.toInt64) - (w1.toInt64)) (0 : Int64)))])) t
      refine XS.ifNo X1.here hx rfl (hb hby own_d5_12) rfl ((if0 _ _).trans (flt hc12).1) ?_
      show Steps p.tables e below (T1.setTop (mkF m 15 #[.val (.ref a0), .val (.int p1), .val (.long ((p1.toInt64) - (w1.toInt64))), .second] [])) t
      exact k
    obtain ⟨T2, X2, e2, st2⟩ := getF X1 hx hZ hown (host := "") (Or.inl (hw _ (List.mem_of_getElem? (i := 23) rfl))) Via.refl e1 F1 (g := (mkF m 17 #[.val (.ref a0), .val (.int p1), .val (.long ((p1.toInt64) - (w1.toInt64))), .second] [(.ref a0), (.long ((p1.toInt64) - (w1.toInt64)))])) rfl rfl (hb hby own_d5_17)
    refine Owe.step (T' := T2) (g' := (mkF m 24 #[.val (.ref a0), .val (.int p1), .val (.long ((p1.toInt64) - (w1.toInt64))), .second] [(.int (lcmpW (((p1.toInt64) - (w1.toInt64)) - (((p1.toInt64) - (w1.toInt64)) / (w2.toInt64)) * (w2.toInt64)) (0 : Int64)))])) (fun t k => ?_) ?_
    · show Steps p.tables e below (T1.setTop (mkF m 15 #[.val (.ref a0), .val (.int p1), .val (.long ((p1.toInt64) - (w1.toInt64))), .second] [])) t
      refine XS.lloadN X1.here hx rfl (hb hby own_d5_15) rfl ?_
      show Steps p.tables e below (T1.setTop (mkF m 16 #[.val (.ref a0), .val (.int p1), .val (.long ((p1.toInt64) - (w1.toInt64))), .second] [(.long ((p1.toInt64) - (w1.toInt64)))])) t
      refine XS.aloadN X1.here hx rfl (hb hby own_d5_16) rfl rfl ?_
      show Steps p.tables e below (T1.setTop (mkF m 17 #[.val (.ref a0), .val (.int p1), .val (.long ((p1.toInt64) - (w1.toInt64))), .second] [(.ref a0), (.long ((p1.toInt64) - (w1.toInt64)))])) t
      refine st2 _ ?_
      show Steps p.tables e below (T2.setTop (mkF m 20 #[.val (.ref a0), .val (.int p1), .val (.long ((p1.toInt64) - (w1.toInt64))), .second] [(.int w2), (.long ((p1.toInt64) - (w1.toInt64)))])) t
      refine XS.i2l X2.here hx rfl (hb hby own_d5_20) rfl ?_
      show Steps p.tables e below (T2.setTop (mkF m 21 #[.val (.ref a0), .val (.int p1), .val (.long ((p1.toInt64) - (w1.toInt64))), .second] [(.long (w2.toInt64)), (.long ((p1.toInt64) - (w1.toInt64)))])) t
      refine XS.lrem X2.here hx rfl (hb hby own_d5_21) rfl hnz ?_
      show Steps p.tables e below (T2.setTop (mkF m 22 #[.val (.ref a0), .val (.int p1), .val (.long ((p1.toInt64) - (w1.toInt64))), .second] [(.long (((p1.toInt64) - (w1.toInt64)) - (((p1.toInt64) - (w1.toInt64)) / (w2.toInt64)) * (w2.toInt64)))])) t
      refine XS.lconst X2.here hx rfl (hb hby own_d5_22) ?_
      show Steps p.tables e below (T2.setTop (mkF m 23 #[.val (.ref a0), .val (.int p1), .val (.long ((p1.toInt64) - (w1.toInt64))), .second] [(.long (0 : Int64)), (.long (((p1.toInt64) - (w1.toInt64)) - (((p1.toInt64) - (w1.toInt64)) / (w2.toInt64)) * (w2.toInt64)))])) t
      refine XS.lcmp X2.here hx rfl (hb hby own_d5_23) rfl ?_
      show Steps p.tables e below (T2.setTop (mkF m 24 #[.val (.ref a0), .val (.int p1), .val (.long ((p1.toInt64) - (w1.toInt64))), .second] [(.int (lcmpW (((p1.toInt64) - (w1.toInt64)) - (((p1.toInt64) - (w1.toInt64)) / (w2.toInt64)) * (w2.toInt64)) (0 : Int64)))])) t
      exact k
    by_cases hc24 : (lcmpW (((p1.toInt64) - (w1.toInt64)) - (((p1.toInt64) - (w1.toInt64)) / (w2.toInt64)) * (w2.toInt64)) (0 : Int64)) = (0 : Int32)
    · refine Owe.step (T' := T2) (g' := (mkF m 27 #[.val (.ref a0), .val (.int p1), .val (.long ((p1.toInt64) - (w1.toInt64))), .second] [])) (fun t k => ?_) ?_
      · show Steps p.tables e below (T2.setTop (mkF m 24 #[.val (.ref a0), .val (.int p1), .val (.long ((p1.toInt64) - (w1.toInt64))), .second] [(.int (lcmpW (((p1.toInt64) - (w1.toInt64)) - (((p1.toInt64) - (w1.toInt64)) / (w2.toInt64)) * (w2.toInt64)) (0 : Int64)))])) t
        refine XS.ifNo X2.here hx rfl (hb hby own_d5_24) rfl ((if0 _ _).trans (teq hc24).2) ?_
        show Steps p.tables e below (T2.setTop (mkF m 27 #[.val (.ref a0), .val (.int p1), .val (.long ((p1.toInt64) - (w1.toInt64))), .second] [])) t
        exact k
      obtain ⟨T3, X3, e3, st3⟩ := getF X2 hx hZ hown (host := "") (Or.inl (hw _ (List.mem_of_getElem? (i := 23) rfl))) Via.refl e2 F1 (g := (mkF m 29 #[.val (.ref a0), .val (.int p1), .val (.long ((p1.toInt64) - (w1.toInt64))), .second] [(.ref a0), (.long ((p1.toInt64) - (w1.toInt64)))])) rfl rfl (hb hby own_d5_29)
      obtain ⟨T4, X4, e4, st4⟩ := getF X3 hx hZ hown (host := "") (Or.inl (hw _ (List.mem_of_getElem? (i := 25) rfl))) Via.refl e3 F2 (g := (mkF m 35 #[.val (.ref a0), .val (.int p1), .val (.long ((p1.toInt64) - (w1.toInt64))), .second] [(.ref a0), (.long (((p1.toInt64) - (w1.toInt64)) / (w2.toInt64)))])) rfl rfl (hb hby own_d5_35)
      refine Owe.step (T' := T4) (g' := (mkF m 40 #[.val (.ref a0), .val (.int p1), .val (.long ((p1.toInt64) - (w1.toInt64))), .second] [(.int (lcmpW (((p1.toInt64) - (w1.toInt64)) / (w2.toInt64)) (w3.toInt64)))])) (fun t k => ?_) ?_
      · show Steps p.tables e below (T2.setTop (mkF m 27 #[.val (.ref a0), .val (.int p1), .val (.long ((p1.toInt64) - (w1.toInt64))), .second] [])) t
        refine XS.lloadN X2.here hx rfl (hb hby own_d5_27) rfl ?_
        show Steps p.tables e below (T2.setTop (mkF m 28 #[.val (.ref a0), .val (.int p1), .val (.long ((p1.toInt64) - (w1.toInt64))), .second] [(.long ((p1.toInt64) - (w1.toInt64)))])) t
        refine XS.aloadN X2.here hx rfl (hb hby own_d5_28) rfl rfl ?_
        show Steps p.tables e below (T2.setTop (mkF m 29 #[.val (.ref a0), .val (.int p1), .val (.long ((p1.toInt64) - (w1.toInt64))), .second] [(.ref a0), (.long ((p1.toInt64) - (w1.toInt64)))])) t
        refine st3 _ ?_
        show Steps p.tables e below (T3.setTop (mkF m 32 #[.val (.ref a0), .val (.int p1), .val (.long ((p1.toInt64) - (w1.toInt64))), .second] [(.int w2), (.long ((p1.toInt64) - (w1.toInt64)))])) t
        refine XS.i2l X3.here hx rfl (hb hby own_d5_32) rfl ?_
        show Steps p.tables e below (T3.setTop (mkF m 33 #[.val (.ref a0), .val (.int p1), .val (.long ((p1.toInt64) - (w1.toInt64))), .second] [(.long (w2.toInt64)), (.long ((p1.toInt64) - (w1.toInt64)))])) t
        refine XS.ldiv X3.here hx rfl (hb hby own_d5_33) rfl hnz ?_
        show Steps p.tables e below (T3.setTop (mkF m 34 #[.val (.ref a0), .val (.int p1), .val (.long ((p1.toInt64) - (w1.toInt64))), .second] [(.long (((p1.toInt64) - (w1.toInt64)) / (w2.toInt64)))])) t
        refine XS.aloadN X3.here hx rfl (hb hby own_d5_34) rfl rfl ?_
        show Steps p.tables e below (T3.setTop (mkF m 35 #[.val (.ref a0), .val (.int p1), .val (.long ((p1.toInt64) - (w1.toInt64))), .second] [(.ref a0), (.long (((p1.toInt64) - (w1.toInt64)) / (w2.toInt64)))])) t
        refine st4 _ ?_
        show Steps p.tables e below (T4.setTop (mkF m 38 #[.val (.ref a0), .val (.int p1), .val (.long ((p1.toInt64) - (w1.toInt64))), .second] [(.int w3), (.long (((p1.toInt64) - (w1.toInt64)) / (w2.toInt64)))])) t
        refine XS.i2l X4.here hx rfl (hb hby own_d5_38) rfl ?_
        show Steps p.tables e below (T4.setTop (mkF m 39 #[.val (.ref a0), .val (.int p1), .val (.long ((p1.toInt64) - (w1.toInt64))), .second] [(.long (w3.toInt64)), (.long (((p1.toInt64) - (w1.toInt64)) / (w2.toInt64)))])) t
        refine XS.lcmp X4.here hx rfl (hb hby own_d5_39) rfl ?_
        show Steps p.tables e below (T4.setTop (mkF m 40 #[.val (.ref a0), .val (.int p1), .val (.long ((p1.toInt64) - (w1.toInt64))), .second] [(.int (lcmpW (((p1.toInt64) - (w1.toInt64)) / (w2.toInt64)) (w3.toInt64)))])) t
        exact k
      by_cases hc40 : (lcmpW (((p1.toInt64) - (w1.toInt64)) / (w2.toInt64)) (w3.toInt64)) < (0 : Int32)
      · refine Owe.step (T' := T4) (g' := (mkF m 45 #[.val (.ref a0), .val (.int p1), .val (.long ((p1.toInt64) - (w1.toInt64))), .second] [])) (fun t k => ?_) ?_
        · show Steps p.tables e below (T4.setTop (mkF m 40 #[.val (.ref a0), .val (.int p1), .val (.long ((p1.toInt64) - (w1.toInt64))), .second] [(.int (lcmpW (((p1.toInt64) - (w1.toInt64)) / (w2.toInt64)) (w3.toInt64)))])) t
          refine XS.ifYes X4.here hx rfl (pc0 := 40) (pc' := 45) rfl (hb hby own_d5_40) rfl ((if0 _ _).trans (tlt hc40).1) (by decide) (by decide) ?_
          show Steps p.tables e below (T4.setTop (mkF m 45 #[.val (.ref a0), .val (.int p1), .val (.long ((p1.toInt64) - (w1.toInt64))), .second] [])) t
          exact k
        obtain ⟨T5, X5, e5, st5⟩ := getF X4 hx hZ hown (host := "") (Or.inl (hw _ (List.mem_of_getElem? (i := 27) rfl))) Via.refl e4 F3 (g := (mkF m 46 #[.val (.ref a0), .val (.int p1), .val (.long ((p1.toInt64) - (w1.toInt64))), .second] [(.ref a0)])) rfl rfl (hb hby own_d5_46)
        obtain ⟨T6, X6, e6, st6⟩ := getF X5 hx hZ hown (host := "") (Or.inl (hw _ (List.mem_of_getElem? (i := 23) rfl))) Via.refl e5 F1 (g := (mkF m 51 #[.val (.ref a0), .val (.int p1), .val (.long ((p1.toInt64) - (w1.toInt64))), .second] [(.ref a0), (.long ((p1.toInt64) - (w1.toInt64))), (.int w4)])) rfl rfl (hb hby own_d5_51)
        refine Owe.step (T' := T6) (g' := (mkF m 58 #[.val (.ref a0), .val (.int p1), .val (.long ((p1.toInt64) - (w1.toInt64))), .second] [(.int (w4 + ((((p1.toInt64) - (w1.toInt64)) / (w2.toInt64)).toInt32)))])) (fun t k => ?_) ?_
        · show Steps p.tables e below (T4.setTop (mkF m 45 #[.val (.ref a0), .val (.int p1), .val (.long ((p1.toInt64) - (w1.toInt64))), .second] [])) t
          refine XS.aloadN X4.here hx rfl (hb hby own_d5_45) rfl rfl ?_
          show Steps p.tables e below (T4.setTop (mkF m 46 #[.val (.ref a0), .val (.int p1), .val (.long ((p1.toInt64) - (w1.toInt64))), .second] [(.ref a0)])) t
          refine st5 _ ?_
          show Steps p.tables e below (T5.setTop (mkF m 49 #[.val (.ref a0), .val (.int p1), .val (.long ((p1.toInt64) - (w1.toInt64))), .second] [(.int w4)])) t
          refine XS.lloadN X5.here hx rfl (hb hby own_d5_49) rfl ?_
          show Steps p.tables e below (T5.setTop (mkF m 50 #[.val (.ref a0), .val (.int p1), .val (.long ((p1.toInt64) - (w1.toInt64))), .second] [(.long ((p1.toInt64) - (w1.toInt64))), (.int w4)])) t
          refine XS.aloadN X5.here hx rfl (hb hby own_d5_50) rfl rfl ?_
          show Steps p.tables e below (T5.setTop (mkF m 51 #[.val (.ref a0), .val (.int p1), .val (.long ((p1.toInt64) - (w1.toInt64))), .second] [(.ref a0), (.long ((p1.toInt64) - (w1.toInt64))), (.int w4)])) t
          refine st6 _ ?_
          show Steps p.tables e below (T6.setTop (mkF m 54 #[.val (.ref a0), .val (.int p1), .val (.long ((p1.toInt64) - (w1.toInt64))), .second] [(.int w2), (.long ((p1.toInt64) - (w1.toInt64))), (.int w4)])) t
          refine XS.i2l X6.here hx rfl (hb hby own_d5_54) rfl ?_
          show Steps p.tables e below (T6.setTop (mkF m 55 #[.val (.ref a0), .val (.int p1), .val (.long ((p1.toInt64) - (w1.toInt64))), .second] [(.long (w2.toInt64)), (.long ((p1.toInt64) - (w1.toInt64))), (.int w4)])) t
          refine XS.ldiv X6.here hx rfl (hb hby own_d5_55) rfl hnz ?_
          show Steps p.tables e below (T6.setTop (mkF m 56 #[.val (.ref a0), .val (.int p1), .val (.long ((p1.toInt64) - (w1.toInt64))), .second] [(.long (((p1.toInt64) - (w1.toInt64)) / (w2.toInt64))), (.int w4)])) t
          refine XS.l2i X6.here hx rfl (hb hby own_d5_56) rfl ?_
          show Steps p.tables e below (T6.setTop (mkF m 57 #[.val (.ref a0), .val (.int p1), .val (.long ((p1.toInt64) - (w1.toInt64))), .second] [(.int ((((p1.toInt64) - (w1.toInt64)) / (w2.toInt64)).toInt32)), (.int w4)])) t
          refine XS.iadd X6.here hx rfl (hb hby own_d5_57) rfl ?_
          show Steps p.tables e below (T6.setTop (mkF m 58 #[.val (.ref a0), .val (.int p1), .val (.long ((p1.toInt64) - (w1.toInt64))), .second] [(.int (w4 + ((((p1.toInt64) - (w1.toInt64)) / (w2.toInt64)).toInt32)))])) t
          exact k
        rw [show own_f5_0 p1 w1 w2 w3 w4 = (w4 + ((((p1.toInt64) - (w1.toInt64)) / (w2.toInt64)).toInt32)) from (by rw [own_f5_0, if_neg hc12, if_pos hc24, if_pos hc40])]
        refine Owe.ret X6 Bd.notSynchronized (v := (some (.int (w4 + ((((p1.toInt64) - (w1.toInt64)) / (w2.toInt64)).toInt32))))) (fun h => by rw [Bd.returns] at h; cases h) (fun fs hr => ?_) ⟨rfl, N0, e6⟩ (by decide) (by decide)
        show Steps p.tables e below (T6.setTop (mkF m 58 #[.val (.ref a0), .val (.int p1), .val (.long ((p1.toInt64) - (w1.toInt64))), .second] [(.int (w4 + ((((p1.toInt64) - (w1.toInt64)) / (w2.toInt64)).toInt32)))])) _
        exact retI X6 hx Bd.returns (hb hby own_d5_58) hr
      · refine Owe.step (T' := T4) (g' := (mkF m 43 #[.val (.ref a0), .val (.int p1), .val (.long ((p1.toInt64) - (w1.toInt64))), .second] [])) (fun t k => ?_) ?_
        · show Steps p.tables e below (T4.setTop (mkF m 40 #[.val (.ref a0), .val (.int p1), .val (.long ((p1.toInt64) - (w1.toInt64))), .second] [(.int (lcmpW (((p1.toInt64) - (w1.toInt64)) / (w2.toInt64)) (w3.toInt64)))])) t
          refine XS.ifNo X4.here hx rfl (hb hby own_d5_40) rfl ((if0 _ _).trans (flt hc40).1) ?_
          show Steps p.tables e below (T4.setTop (mkF m 43 #[.val (.ref a0), .val (.int p1), .val (.long ((p1.toInt64) - (w1.toInt64))), .second] [])) t
          exact k
        rw [show own_f5_0 p1 w1 w2 w3 w4 = (-1 : Int32) from (by rw [own_f5_0, if_neg hc12, if_pos hc24, if_neg hc40])]
        refine Owe.ret X4 Bd.notSynchronized (v := (some (.int (-1 : Int32)))) (fun h => by rw [Bd.returns] at h; cases h) (fun fs hr => ?_) ⟨rfl, N0, e4⟩ (by decide) (by decide)
        show Steps p.tables e below (T4.setTop (mkF m 43 #[.val (.ref a0), .val (.int p1), .val (.long ((p1.toInt64) - (w1.toInt64))), .second] [])) _
        refine XS.iconst X4.here hx rfl (hb hby own_d5_43) ?_
        show Steps p.tables e below (T4.setTop (mkF m 44 #[.val (.ref a0), .val (.int p1), .val (.long ((p1.toInt64) - (w1.toInt64))), .second] [(.int (-1 : Int32))])) _
        exact retI X4 hx Bd.returns (hb hby own_d5_44) hr
    · refine Owe.step (T' := T2) (g' := (mkF m 43 #[.val (.ref a0), .val (.int p1), .val (.long ((p1.toInt64) - (w1.toInt64))), .second] [])) (fun t k => ?_) ?_
      · show Steps p.tables e below (T2.setTop (mkF m 24 #[.val (.ref a0), .val (.int p1), .val (.long ((p1.toInt64) - (w1.toInt64))), .second] [(.int (lcmpW (((p1.toInt64) - (w1.toInt64)) - (((p1.toInt64) - (w1.toInt64)) / (w2.toInt64)) * (w2.toInt64)) (0 : Int64)))])) t
        refine XS.ifYes X2.here hx rfl (pc0 := 24) (pc' := 43) rfl (hb hby own_d5_24) rfl ((if0 _ _).trans (feq hc24).2) (by decide) (by decide) ?_
        show Steps p.tables e below (T2.setTop (mkF m 43 #[.val (.ref a0), .val (.int p1), .val (.long ((p1.toInt64) - (w1.toInt64))), .second] [])) t
        exact k
      rw [show own_f5_0 p1 w1 w2 w3 w4 = (-1 : Int32) from (by rw [own_f5_0, if_neg hc12, if_neg hc24])]
      refine Owe.ret X2 Bd.notSynchronized (v := (some (.int (-1 : Int32)))) (fun h => by rw [Bd.returns] at h; cases h) (fun fs hr => ?_) ⟨rfl, N0, e2⟩ (by decide) (by decide)
      show Steps p.tables e below (T2.setTop (mkF m 43 #[.val (.ref a0), .val (.int p1), .val (.long ((p1.toInt64) - (w1.toInt64))), .second] [])) _
      refine XS.iconst X2.here hx rfl (hb hby own_d5_43) ?_
      show Steps p.tables e below (T2.setTop (mkF m 44 #[.val (.ref a0), .val (.int p1), .val (.long ((p1.toInt64) - (w1.toInt64))), .second] [(.int (-1 : Int32))])) _
      exact retI X2 hx Bd.returns (hb hby own_d5_44) hr
theorem own_pd1 : parseMethodDescriptor "(II)I" = some ⟨[.int, .int], some .int⟩ := by decide +kernel
theorem own_pd2 : parseMethodDescriptor "(IIII)V" = some ⟨[.int, .int, .int, .int], none⟩ := by decide +kernel
theorem own_pd3 : parseMethodDescriptor "(I)I" = some ⟨[.int], some .int⟩ := by decide +kernel
theorem own_pn2 : plainName "com/example/rasterline/rasterline/AxisDestinationOfPinLaw" = true := by first | (simp [plainName, overriddenIn]; done) | decide +kernel
theorem own_ef0 (m : MethodId) (p0 : Int32) (p1 : Int32) (p2 : Int32) (p3 : Int32) (p4 : Int32) (p5 : Int32) : entryFrame m #[(.int p0), (.int p1), (.int p2), (.int p3), (.int p4), (.int p5)] maxLocals = mkF m 0 #[.val (.int p0), .val (.int p1), .val (.int p2), .val (.int p3), .val (.int p4), .val (.int p5), .unset, .unset, .unset, .unset, .unset, .unset, .unset, .unset, .unset, .unset, .unset, .unset, .unset] [] := by first | (simp [entryFrame, mkF, argsToLocals, Value.category, maxLocals]; done) | rfl
def own_f0_198 (p0 : Int32) (p1 : Int32) (p2 : Int32) (p3 : Int32) (t198_0 : Int32) (v96_11 : Int64) (v35_8 : Int32) : Int32 := (if (own_f5_0 ((((p0.toInt64) + (v96_11 * ((own_f1_0 (1 : Int32) (p1 &&& (2147483647 : Int32))).toInt64))) + (v35_8.toInt64)).toInt32) p0 (own_f1_0 (1 : Int32) (p1 &&& (2147483647 : Int32))) (p2 &&& (2147483647 : Int32)) p3) = t198_0 then (1 : Int32) else (0 : Int32))
def own_f0_182 (p0 : Int32) (p1 : Int32) (p2 : Int32) (p3 : Int32) (t182_0 : Int32) (v96_11 : Int64) (v35_8 : Int32) : Int32 := (if t182_0 = (0 : Int32) then (own_f0_198 p0 p1 p2 p3 (-1 : Int32) v96_11 v35_8) else (own_f0_198 p0 p1 p2 p3 (p3 + (v96_11.toInt32)) v96_11 v35_8))
def own_f0_181 (p0 : Int32) (p1 : Int32) (p2 : Int32) (p3 : Int32) (v96_11 : Int64) (v35_8 : Int32) : Int32 := (own_f0_182 p0 p1 p2 p3 (0 : Int32) v96_11 v35_8)
def own_f0_96 (p0 : Int32) (p1 : Int32) (p2 : Int32) (p3 : Int32) (v96_11 : Int64) (v35_8 : Int32) : Int32 := (if (lcmpW (((p0.toInt64) + (v96_11 * ((own_f1_0 (1 : Int32) (p1 &&& (2147483647 : Int32))).toInt64))) + (v35_8.toInt64)) (-2147483648 : Int64)) < (0 : Int32) then (1 : Int32) else (if (0 : Int32) < (lcmpW (((p0.toInt64) + (v96_11 * ((own_f1_0 (1 : Int32) (p1 &&& (2147483647 : Int32))).toInt64))) + (v35_8.toInt64)) (2147483647 : Int64)) then (1 : Int32) else (if v35_8 = (0 : Int32) then (if (lcmpW v96_11 (0 : Int64)) < (0 : Int32) then (own_f0_181 p0 p1 p2 p3 v96_11 v35_8) else (if (lcmpW v96_11 ((p2 &&& (2147483647 : Int32)).toInt64)) < (0 : Int32) then (own_f0_182 p0 p1 p2 p3 (1 : Int32) v96_11 v35_8) else (own_f0_181 p0 p1 p2 p3 v96_11 v35_8))) else (own_f0_181 p0 p1 p2 p3 v96_11 v35_8))))
def own_f0_35 (p0 : Int32) (p1 : Int32) (p2 : Int32) (p3 : Int32) (p4 : Int32) (v35_8 : Int32) : Int32 := (if (p4 &&& (3 : Int32)) = (1 : Int32) then (own_f0_96 p0 p1 p2 p3 ((((p2 &&& (2147483647 : Int32)).toInt64) - (2 : Int64)) + (((p4 >>> ((2 : Int32) &&& 31)) &&& (3 : Int32)).toInt64)) v35_8) else (if (p4 &&& (3 : Int32)) = (2 : Int32) then (own_f0_96 p0 p1 p2 p3 ((((p4 >>> ((2 : Int32) &&& 31)) &&& (3 : Int32)).toInt64) - (2 : Int64)) v35_8) else (own_f0_96 p0 p1 p2 p3 ((p4 >>> ((2 : Int32) &&& 31)).toInt64) v35_8)))
def own_f0_0 (p0 : Int32) (p1 : Int32) (p2 : Int32) (p3 : Int32) (p4 : Int32) (p5 : Int32) : Int32 := (if (p5 &&& (1 : Int32)) = (0 : Int32) then (own_f0_35 p0 p1 p2 p3 p4 (0 : Int32)) else (own_f0_35 p0 p1 p2 p3 p4 (((p5.toUInt32 >>> ((1 : Int32) &&& 31).toUInt32).toInt32) - (((p5.toUInt32 >>> ((1 : Int32) &&& 31).toUInt32).toInt32) / (own_f1_0 (1 : Int32) (p1 &&& (2147483647 : Int32)))) * (own_f1_0 (1 : Int32) (p1 &&& (2147483647 : Int32))))))
theorem own_b64 {x : Int} (h1 : -9223372036854775808 ≤ x) (h2 : x < 9223372036854775808) : x.bmod (2 ^ 64) = x := Int.bmod_eq_of_le_mul_two (by omega) (by omega)
theorem own_b32 {x : Int} (h1 : -2147483648 ≤ x) (h2 : x < 2147483648) : x.bmod (2 ^ 32) = x := Int.bmod_eq_of_le_mul_two (by omega) (by omega)
/-- the place, told by its ints -/
theorem own_pos (f P r : Int32) (k : Int64) (hP : 1 ≤ P.toInt) (hk : -2147483650 ≤ k.toInt ∧ k.toInt ≤ 2147483648) (hr : 0 ≤ r.toInt ∧ r.toInt < P.toInt) :
    (((f.toInt64) + (k * (P.toInt64))) + (r.toInt64)).toInt = f.toInt + k.toInt * P.toInt + r.toInt := by
  have a1 : k.toInt * P.toInt ≤ 2147483648 * P.toInt := Int.mul_le_mul_of_nonneg_right hk.2 (by omega)
  have a2 : -2147483650 * P.toInt ≤ k.toInt * P.toInt := Int.mul_le_mul_of_nonneg_right hk.1 (by omega)
  have b1 := f.le_toInt
  have b2 := f.toInt_lt
  have b3 := P.toInt_lt
  have e1 : (k * P.toInt64).toInt = k.toInt * P.toInt := by
    rw [Int64.toInt_mul, Int32.toInt_toInt64]; exact own_b64 (by omega) (by omega)
  have e2 : (f.toInt64 + k * P.toInt64).toInt = f.toInt + k.toInt * P.toInt := by
    rw [Int64.toInt_add, e1, Int32.toInt_toInt64]; exact own_b64 (by omega) (by omega)
  rw [Int64.toInt_add, e2, Int32.toInt_toInt64]; exact own_b64 (by omega) (by omega)
theorem own_dest (f P N d r : Int32) (k pos : Int64) (hP : 1 ≤ P.toInt) (hk : -2147483650 ≤ k.toInt ∧ k.toInt ≤ 2147483648) (hr : 0 ≤ r.toInt ∧ r.toInt < P.toInt)
    (hp : pos.toInt = f.toInt + k.toInt * P.toInt + r.toInt) (h1 : -2147483648 ≤ pos.toInt) (h2 : pos.toInt ≤ 2147483647) :
    own_f5_0 (pos.toInt32) f P N d = if k.toInt < 0 then -1 else if r.toInt = 0 then if k.toInt < N.toInt then d + k.toInt32 else -1 else -1 := by
  have b1 := f.le_toInt
  have b2 := f.toInt_lt
  have b3 := P.toInt_lt
  have e0 : (0 : Int64).toInt = 0 := rfl
  have ep : pos.toInt32.toInt = pos.toInt := by rw [Int64.toInt_toInt32]; exact own_b32 (by omega) (by omega)
  have eD : (pos.toInt32.toInt64 - f.toInt64).toInt = k.toInt * P.toInt + r.toInt := by
    rw [Int64.toInt_sub, Int32.toInt_toInt64, Int32.toInt_toInt64, ep, hp]
    rw [own_b64 (by omega) (by omega)]; omega
  have hP1 : P.toInt64 ≠ -1 := fun q => by
    have := congrArg Int64.toInt q
    rw [Int32.toInt_toInt64] at this
    have e : (-1 : Int64).toInt = -1 := by decide
    omega
  unfold own_f5_0
  generalize pos.toInt32.toInt64 - f.toInt64 = D at eD
  rw [lrem_mod]
  have hdiv : (D / P.toInt64).toInt = (k.toInt * P.toInt + r.toInt).tdiv P.toInt := by
    rw [Int64.toInt_div_of_ne_right _ _ hP1, eD, Int32.toInt_toInt64]
  have hmod : (D % P.toInt64).toInt = (k.toInt * P.toInt + r.toInt).tmod P.toInt := by rw [Int64.toInt_mod, eD, Int32.toInt_toInt64]
  simp only [lw_lt, lw_eq, Int64.lt_iff_toInt_lt, Int32.toInt_toInt64]
  rw [eD, e0]
  by_cases hn : k.toInt < 0
  · have a : k.toInt * P.toInt ≤ -1 * P.toInt := Int.mul_le_mul_of_nonneg_right (by omega) (by omega)
    rw [if_pos (by omega), if_pos hn]
  · have a : 0 ≤ k.toInt * P.toInt := Int.mul_nonneg (by omega) (by omega)
    rw [if_neg (by omega), if_neg hn]
    have hd : (k.toInt * P.toInt + r.toInt).tdiv P.toInt = k.toInt := by
      rw [Int.tdiv_eq_ediv_of_nonneg (by omega), Int.add_comm, Int.add_mul_ediv_right _ _ (by omega), Int.ediv_eq_zero_of_lt hr.1 hr.2]; omega
    have hm : (k.toInt * P.toInt + r.toInt).tmod P.toInt = r.toInt := by
      rw [Int.tmod_eq_emod_of_nonneg (by omega), Int.add_comm, Int.add_mul_emod_self_right, Int.emod_eq_of_lt hr.1 hr.2]
    have ek : D / P.toInt64 = k := Int64.toInt_inj.mp (by rw [hdiv, hd])
    rw [ek]
    by_cases hz : r.toInt = 0
    · rw [if_pos (Int64.toInt_inj.mp (by rw [hmod, hm, hz]; rfl)), if_pos hz]
    · rw [if_neg (fun q => hz (by rw [← hm, ← hmod, q]; rfl)), if_neg hz]
theorem own_core (f p1 p2 d : Int32) (k : Int64) (r : Int32) (hk : -2147483650 ≤ k.toInt ∧ k.toInt ≤ 2147483648) (hr : 0 ≤ r.toInt ∧ r.toInt < (own_f1_0 (1 : Int32) (p1 &&& (2147483647 : Int32))).toInt) : own_f0_96 f p1 p2 d k r = 1 := by
  have hP := own_per p1
  have hpos := own_pos f _ r k hP hk hr
  have z : ¬ ((1 : Int32) = 0) := by decide
  have e0 : (0 : Int64).toInt = 0 := rfl
  have e1 : (-2147483648 : Int64).toInt = -2147483648 := by decide
  have e2 : (2147483647 : Int64).toInt = 2147483647 := by decide
  have er : r = 0 ↔ r.toInt = 0 := by rw [← Int32.toInt_inj]; exact Iff.rfl
  unfold own_f0_96 own_f0_181 own_f0_182 own_f0_198
  simp only [lw_lt, lw_gt, Int64.lt_iff_toInt_lt, Int32.toInt_toInt64, e0, e1, e2, er, z, if_true, if_false]
  by_cases h1 : ((((f.toInt64) + (k * ((own_f1_0 (1 : Int32) (p1 &&& (2147483647 : Int32))).toInt64))) + (r.toInt64))).toInt < -2147483648
  · rw [if_pos h1]
  by_cases h2 : 2147483647 < ((((f.toInt64) + (k * ((own_f1_0 (1 : Int32) (p1 &&& (2147483647 : Int32))).toInt64))) + (r.toInt64))).toInt
  · rw [if_neg h1, if_pos h2]
  rw [if_neg h1, if_neg h2, own_dest f _ (p2 &&& 2147483647) d r k _ hP hk hr hpos (by omega) (by omega)]
  by_cases a : r.toInt = 0 <;> by_cases b : k.toInt < 0 <;> by_cases c : k.toInt < (p2 &&& 2147483647).toInt <;> simp only [a, b, c, if_true, if_false]
theorem own_law (p0 p1 p2 p3 p4 p5 : Int32) : own_f0_0 p0 p1 p2 p3 p4 p5 = 1 := by
  have hP := own_per p1
  have m2 := c_mask p2 2147483647 31 (by decide) (by decide)
  have m3 := c_mask (p4 >>> ((2 : Int32) &&& 31)) 3 2 (by decide) (by decide)
  have q2 : (2 : Int64).toInt = 2 := rfl
  have hrr := (p4 >>> ((2 : Int32) &&& 31)).le_toInt
  have hrs := (p4 >>> ((2 : Int32) &&& 31)).toInt_lt
  have key : ∀ r : Int32, 0 ≤ r.toInt ∧ r.toInt < (own_f1_0 (1 : Int32) (p1 &&& (2147483647 : Int32))).toInt → own_f0_35 p0 p1 p2 p3 p4 r = 1 := fun r hr => by
    unfold own_f0_35
    repeat' split
    · refine own_core _ _ _ _ _ _ ?_ hr
      have e : ((p2 &&& (2147483647 : Int32)).toInt64 - (2 : Int64)).toInt = (p2 &&& 2147483647).toInt - 2 := by
        rw [Int64.toInt_sub, Int32.toInt_toInt64, q2]; exact own_b64 (by omega) (by omega)
      rw [Int64.toInt_add, e, Int32.toInt_toInt64, own_b64 (by omega) (by omega)]; omega
    · refine own_core _ _ _ _ _ _ ?_ hr
      rw [Int64.toInt_sub, Int32.toInt_toInt64, q2, own_b64 (by omega) (by omega)]; omega
    · refine own_core _ _ _ _ _ _ ?_ hr
      rw [Int32.toInt_toInt64]; omega
  unfold own_f0_0
  split
  · exact key 0 ⟨by decide, by have e : (0 : Int32).toInt = 0 := rfl; omega⟩
  · refine key _ ?_
    rw [own_irem]
    have u := c_iushr p5 1 1 (by decide) (by decide)
    have e : ((((p5.toUInt32 >>> ((1 : Int32) &&& 31).toUInt32).toInt32)) % (own_f1_0 (1 : Int32) (p1 &&& (2147483647 : Int32)))).toInt = (((p5.toUInt32 >>> ((1 : Int32) &&& 31).toUInt32).toInt32)).toInt % (own_f1_0 (1 : Int32) (p1 &&& (2147483647 : Int32))).toInt := by
      rw [Int32.toInt_mod, Int.tmod_eq_emod_of_nonneg (by omega)]
    rw [e]
    exact ⟨Int.emod_nonneg _ (by omega), Int.emod_lt_of_pos _ (by omega)⟩
set_option maxRecDepth 65536 in
set_option maxHeartbeats 40000000 in
theorem own_rm0 (l : Launch) (Z : State) (aA : Array Value) (hw : ∀ d ∈ tables_1, d.before aA Z = true) (ws : List Jvm.Cond) (p0 : Int32) (p1 : Int32) (p2 : Int32) (p3 : Int32) (p4 : Int32) (p5 : Int32)  (h0 : Heap) (n0 : Nat) (Z0 : n0 ≤ h0.size) :
    MetFree l x (head1 (Jvm.Cond.code x code maxLocals ret :: ws) room_1) (fun a U => a = #[(.int p0), (.int p1), (.int p2), (.int p3), (.int p4), (.int p5)] ∧ Z.Warmed39 U.vm ∧ U.heap = h0) (fun _ _ _ _ _ => True) (fun _ U o U' => ∃ v L, o = .returned v ∧ (QL (.int ((1 : Int32))) n0) v U'.heap L ∧ FrameEnd U o U' L 16 128) := by
  refine MetFree.of_bodySF (plainFor_of_name own_pn2) hisR ?_
  intro p e s m args below meth c s₁ Bd hml0 hP hK
  obtain ⟨rfl, hZ, hh⟩ := hP
  have hx := Bd.exec
  have hby := Bd.bytes
  have hml : c.maxLocals = 19 := hml0
  have hown : s.vm.findClass "com/example/rasterline/rasterline/AxisDestinationOfPinLaw" = some m.cls := findClass_of_methodNamed Bd.named
  have hnm := (name_of_methodNamed Bd.named Bd.method).1
  have X0 : Stand p l e room_1 s m #[(.int p0), (.int p1), (.int p2), (.int p3), (.int p4), (.int p5)] below meth c s₁ [] 0 0 := Stand.of_body Bd
  have e0 : s₁.heap = h0 := by rw [← hh, Bd.state]; rfl
  have N0 := Fr.nil n0
  refine Owe.step (T := s₁) (T' := s₁) (g' := (mkF m 0 #[.val (.int p0), .val (.int p1), .val (.int p2), .val (.int p3), .val (.int p4), .val (.int p5), .unset, .unset, .unset, .unset, .unset, .unset, .unset, .unset, .unset, .unset, .unset, .unset, .unset] [])) (fun t k => castTop (own_ef0 m p0 p1 p2 p3 p4 p5) k) ?_
  obtain ⟨_, _, ⟨T1, L1, k1, n1⟩, -, X1, ⟨Lc1, hQ1, l1, y1, z1⟩, st1⟩ := Jvm.LawKit.callS X0 hx (y := (⟨"java/lang/Math", "max", "(II)I"⟩ : MethodName)) hown (mvT hZ (hw _ (List.mem_of_getElem? (i := 1) rfl))) (mvT hZ (hw _ (List.mem_of_getElem? (i := 2) rfl))) (mvT hZ (hw _ (List.mem_of_getElem? (i := 3) rfl))) (mvT hZ (hw _ (List.mem_of_getElem? (i := 4) rfl))) (by decide) (backOf (W := 0) (own_rm1 l Z aA hw [] (1 : Int32) (p1 &&& (2147483647 : Int32)) h0 n0 Z0 ) hZ (hw _ (List.mem_of_getElem? (i := 4) rfl)) (hw _ (List.mem_of_getElem? (i := 3) rfl)) (by decide) (by decide)) (g := (mkF m 5 #[.val (.int p0), .val (.int p1), .val (.int p2), .val (.int p3), .val (.int p4), .val (.int p5), .unset, .unset, .unset, .unset, .unset, .unset, .unset, .unset, .unset, .unset, .unset, .unset, .unset] [(.int (p1 &&& (2147483647 : Int32))), (.int (1 : Int32))])) rfl (by rw [hml]; rfl) (argsL := [(.int (1 : Int32)), (.int (p1 &&& (2147483647 : Int32)))]) (rest := []) (lenOf own_pd1 rfl) rfl (by show 2 * 0 + _ ≤ _; exact Nat.le_of_eq rfl) (hb hby at_5) (fun _ _ => ⟨rfl, e0, (by decide : 0 + 0 ≤ _), (by decide : 0 + 0 ≤ _)⟩)
  dsimp only [Pt.U, Pt.locs, Pt.cells, Pt.slots] at X1 l1 y1 z1 st1 hQ1
  subst l1 y1 z1
  obtain ⟨rfl, N1q, e1⟩ := hQ1
  have N1 := Fr.app N0 N1q
  refine Owe.step (T' := T1) (g' := (mkF m 23 #[.val (.int p0), .val (.int p1), .val (.int p2), .val (.int p3), .val (.int p4), .val (.int p5), .val (.int (own_f1_0 (1 : Int32) (p1 &&& (2147483647 : Int32)))), .val (.int (p2 &&& (2147483647 : Int32))), .val (.int (0 : Int32)), .unset, .unset, .unset, .unset, .unset, .unset, .unset, .unset, .unset, .unset] [(.int (p5 &&& (1 : Int32)))])) (fun t k => ?_) ?_
  · show Steps p.tables e below (s₁.setTop (mkF m 0 #[.val (.int p0), .val (.int p1), .val (.int p2), .val (.int p3), .val (.int p4), .val (.int p5), .unset, .unset, .unset, .unset, .unset, .unset, .unset, .unset, .unset, .unset, .unset, .unset, .unset] [])) t
    refine XS.iconst X0.here hx rfl (hb hby at_0) ?_
    show Steps p.tables e below (s₁.setTop (mkF m 1 #[.val (.int p0), .val (.int p1), .val (.int p2), .val (.int p3), .val (.int p4), .val (.int p5), .unset, .unset, .unset, .unset, .unset, .unset, .unset, .unset, .unset, .unset, .unset, .unset, .unset] [(.int (1 : Int32))])) t
    refine XS.iloadN X0.here hx rfl (hb hby at_1) rfl ?_
    show Steps p.tables e below (s₁.setTop (mkF m 2 #[.val (.int p0), .val (.int p1), .val (.int p2), .val (.int p3), .val (.int p4), .val (.int p5), .unset, .unset, .unset, .unset, .unset, .unset, .unset, .unset, .unset, .unset, .unset, .unset, .unset] [(.int p1), (.int (1 : Int32))])) t
    refine X0.ldcInt hx hown (mvT hZ (hw _ (List.mem_of_getElem? (i := 0) rfl))) (g := (mkF m 2 #[.val (.int p0), .val (.int p1), .val (.int p2), .val (.int p3), .val (.int p4), .val (.int p5), .unset, .unset, .unset, .unset, .unset, .unset, .unset, .unset, .unset, .unset, .unset, .unset, .unset] [(.int p1), (.int (1 : Int32))])) rfl (hb hby at_2) _ ?_
    show Steps p.tables e below (s₁.setTop (mkF m 4 #[.val (.int p0), .val (.int p1), .val (.int p2), .val (.int p3), .val (.int p4), .val (.int p5), .unset, .unset, .unset, .unset, .unset, .unset, .unset, .unset, .unset, .unset, .unset, .unset, .unset] [(.int (2147483647 : Int32)), (.int p1), (.int (1 : Int32))])) t
    refine XS.iand X0.here hx rfl (hb hby at_4) rfl ?_
    show Steps p.tables e below (s₁.setTop (mkF m 5 #[.val (.int p0), .val (.int p1), .val (.int p2), .val (.int p3), .val (.int p4), .val (.int p5), .unset, .unset, .unset, .unset, .unset, .unset, .unset, .unset, .unset, .unset, .unset, .unset, .unset] [(.int (p1 &&& (2147483647 : Int32))), (.int (1 : Int32))])) t
    refine st1 _ ?_
    show Steps p.tables e below (T1.setTop (mkF m 8 #[.val (.int p0), .val (.int p1), .val (.int p2), .val (.int p3), .val (.int p4), .val (.int p5), .unset, .unset, .unset, .unset, .unset, .unset, .unset, .unset, .unset, .unset, .unset, .unset, .unset] [(.int (own_f1_0 (1 : Int32) (p1 &&& (2147483647 : Int32))))])) t
    refine XS.istore X1.here hx rfl (hb hby at_8) rfl (l' := #[.val (.int p0), .val (.int p1), .val (.int p2), .val (.int p3), .val (.int p4), .val (.int p5), .val (.int (own_f1_0 (1 : Int32) (p1 &&& (2147483647 : Int32)))), .unset, .unset, .unset, .unset, .unset, .unset, .unset, .unset, .unset, .unset, .unset, .unset]) rfl ?_
    show Steps p.tables e below (T1.setTop (mkF m 10 #[.val (.int p0), .val (.int p1), .val (.int p2), .val (.int p3), .val (.int p4), .val (.int p5), .val (.int (own_f1_0 (1 : Int32) (p1 &&& (2147483647 : Int32)))), .unset, .unset, .unset, .unset, .unset, .unset, .unset, .unset, .unset, .unset, .unset, .unset] [])) t
    refine XS.iloadN X1.here hx rfl (hb hby at_10) rfl ?_
    show Steps p.tables e below (T1.setTop (mkF m 11 #[.val (.int p0), .val (.int p1), .val (.int p2), .val (.int p3), .val (.int p4), .val (.int p5), .val (.int (own_f1_0 (1 : Int32) (p1 &&& (2147483647 : Int32)))), .unset, .unset, .unset, .unset, .unset, .unset, .unset, .unset, .unset, .unset, .unset, .unset] [(.int p2)])) t
    refine X1.ldcInt hx hown (mvT hZ (hw _ (List.mem_of_getElem? (i := 0) rfl))) (g := (mkF m 11 #[.val (.int p0), .val (.int p1), .val (.int p2), .val (.int p3), .val (.int p4), .val (.int p5), .val (.int (own_f1_0 (1 : Int32) (p1 &&& (2147483647 : Int32)))), .unset, .unset, .unset, .unset, .unset, .unset, .unset, .unset, .unset, .unset, .unset, .unset] [(.int p2)])) rfl (hb hby at_11) _ ?_
    show Steps p.tables e below (T1.setTop (mkF m 13 #[.val (.int p0), .val (.int p1), .val (.int p2), .val (.int p3), .val (.int p4), .val (.int p5), .val (.int (own_f1_0 (1 : Int32) (p1 &&& (2147483647 : Int32)))), .unset, .unset, .unset, .unset, .unset, .unset, .unset, .unset, .unset, .unset, .unset, .unset] [(.int (2147483647 : Int32)), (.int p2)])) t
    refine XS.iand X1.here hx rfl (hb hby at_13) rfl ?_
    show Steps p.tables e below (T1.setTop (mkF m 14 #[.val (.int p0), .val (.int p1), .val (.int p2), .val (.int p3), .val (.int p4), .val (.int p5), .val (.int (own_f1_0 (1 : Int32) (p1 &&& (2147483647 : Int32)))), .unset, .unset, .unset, .unset, .unset, .unset, .unset, .unset, .unset, .unset, .unset, .unset] [(.int (p2 &&& (2147483647 : Int32)))])) t
    refine XS.istore X1.here hx rfl (hb hby at_14) rfl (l' := #[.val (.int p0), .val (.int p1), .val (.int p2), .val (.int p3), .val (.int p4), .val (.int p5), .val (.int (own_f1_0 (1 : Int32) (p1 &&& (2147483647 : Int32)))), .val (.int (p2 &&& (2147483647 : Int32))), .unset, .unset, .unset, .unset, .unset, .unset, .unset, .unset, .unset, .unset, .unset]) rfl ?_
    show Steps p.tables e below (T1.setTop (mkF m 16 #[.val (.int p0), .val (.int p1), .val (.int p2), .val (.int p3), .val (.int p4), .val (.int p5), .val (.int (own_f1_0 (1 : Int32) (p1 &&& (2147483647 : Int32)))), .val (.int (p2 &&& (2147483647 : Int32))), .unset, .unset, .unset, .unset, .unset, .unset, .unset, .unset, .unset, .unset, .unset] [])) t
    refine XS.iconst X1.here hx rfl (hb hby at_16) ?_
    show Steps p.tables e below (T1.setTop (mkF m 17 #[.val (.int p0), .val (.int p1), .val (.int p2), .val (.int p3), .val (.int p4), .val (.int p5), .val (.int (own_f1_0 (1 : Int32) (p1 &&& (2147483647 : Int32)))), .val (.int (p2 &&& (2147483647 : Int32))), .unset, .unset, .unset, .unset, .unset, .unset, .unset, .unset, .unset, .unset, .unset] [(.int (0 : Int32))])) t
    refine XS.istore X1.here hx rfl (hb hby at_17) rfl (l' := #[.val (.int p0), .val (.int p1), .val (.int p2), .val (.int p3), .val (.int p4), .val (.int p5), .val (.int (own_f1_0 (1 : Int32) (p1 &&& (2147483647 : Int32)))), .val (.int (p2 &&& (2147483647 : Int32))), .val (.int (0 : Int32)), .unset, .unset, .unset, .unset, .unset, .unset, .unset, .unset, .unset, .unset]) rfl ?_
    show Steps p.tables e below (T1.setTop (mkF m 19 #[.val (.int p0), .val (.int p1), .val (.int p2), .val (.int p3), .val (.int p4), .val (.int p5), .val (.int (own_f1_0 (1 : Int32) (p1 &&& (2147483647 : Int32)))), .val (.int (p2 &&& (2147483647 : Int32))), .val (.int (0 : Int32)), .unset, .unset, .unset, .unset, .unset, .unset, .unset, .unset, .unset, .unset] [])) t
    refine XS.iload X1.here hx rfl (hb hby at_19) rfl ?_
    show Steps p.tables e below (T1.setTop (mkF m 21 #[.val (.int p0), .val (.int p1), .val (.int p2), .val (.int p3), .val (.int p4), .val (.int p5), .val (.int (own_f1_0 (1 : Int32) (p1 &&& (2147483647 : Int32)))), .val (.int (p2 &&& (2147483647 : Int32))), .val (.int (0 : Int32)), .unset, .unset, .unset, .unset, .unset, .unset, .unset, .unset, .unset, .unset] [(.int p5)])) t
    refine XS.iconst X1.here hx rfl (hb hby at_21) ?_
    show Steps p.tables e below (T1.setTop (mkF m 22 #[.val (.int p0), .val (.int p1), .val (.int p2), .val (.int p3), .val (.int p4), .val (.int p5), .val (.int (own_f1_0 (1 : Int32) (p1 &&& (2147483647 : Int32)))), .val (.int (p2 &&& (2147483647 : Int32))), .val (.int (0 : Int32)), .unset, .unset, .unset, .unset, .unset, .unset, .unset, .unset, .unset, .unset] [(.int (1 : Int32)), (.int p5)])) t
    refine XS.iand X1.here hx rfl (hb hby at_22) rfl ?_
    show Steps p.tables e below (T1.setTop (mkF m 23 #[.val (.int p0), .val (.int p1), .val (.int p2), .val (.int p3), .val (.int p4), .val (.int p5), .val (.int (own_f1_0 (1 : Int32) (p1 &&& (2147483647 : Int32)))), .val (.int (p2 &&& (2147483647 : Int32))), .val (.int (0 : Int32)), .unset, .unset, .unset, .unset, .unset, .unset, .unset, .unset, .unset, .unset] [(.int (p5 &&& (1 : Int32)))])) t
    exact k
  have j35 : ∀ (T : State) (Lc : List Loc) (X : Stand p l e room_1 s m #[(.int p0), (.int p1), (.int p2), (.int p3), (.int p4), (.int p5)] below meth c T Lc 0 0) (eT : T.heap = h0) (N : Fr n0 Lc) (v35_8 : Int32), Owe p e below s 16 128 (QL (.int (own_f0_35 p0 p1 p2 p3 p4 v35_8)) n0) T (mkF m 35 #[.val (.int p0), .val (.int p1), .val (.int p2), .val (.int p3), .val (.int p4), .val (.int p5), .val (.int (own_f1_0 (1 : Int32) (p1 &&& (2147483647 : Int32)))), .val (.int (p2 &&& (2147483647 : Int32))), .val (.int v35_8), .unset, .unset, .unset, .unset, .unset, .unset, .unset, .unset, .unset, .unset] []) := by
    intro T35j Lc35j X35j e35j N35j v35_8
    refine Owe.step (T' := T35j) (g' := (mkF m 50 #[.val (.int p0), .val (.int p1), .val (.int p2), .val (.int p3), .val (.int p4), .val (.int p5), .val (.int (own_f1_0 (1 : Int32) (p1 &&& (2147483647 : Int32)))), .val (.int (p2 &&& (2147483647 : Int32))), .val (.int v35_8), .val (.int (p4 &&& (3 : Int32))), .val (.int (p4 >>> ((2 : Int32) &&& 31))), .unset, .unset, .unset, .unset, .unset, .unset, .unset, .unset] [(.int (1 : Int32)), (.int (p4 &&& (3 : Int32)))])) (fun t k => ?_) ?_
    · show Steps p.tables e below (T35j.setTop (mkF m 35 #[.val (.int p0), .val (.int p1), .val (.int p2), .val (.int p3), .val (.int p4), .val (.int p5), .val (.int (own_f1_0 (1 : Int32) (p1 &&& (2147483647 : Int32)))), .val (.int (p2 &&& (2147483647 : Int32))), .val (.int v35_8), .unset, .unset, .unset, .unset, .unset, .unset, .unset, .unset, .unset, .unset] [])) t
      refine XS.iload X35j.here hx rfl (hb hby at_35) rfl ?_
      show Steps p.tables e below (T35j.setTop (mkF m 37 #[.val (.int p0), .val (.int p1), .val (.int p2), .val (.int p3), .val (.int p4), .val (.int p5), .val (.int (own_f1_0 (1 : Int32) (p1 &&& (2147483647 : Int32)))), .val (.int (p2 &&& (2147483647 : Int32))), .val (.int v35_8), .unset, .unset, .unset, .unset, .unset, .unset, .unset, .unset, .unset, .unset] [(.int p4)])) t
      refine XS.iconst X35j.here hx rfl (hb hby at_37) ?_
      show Steps p.tables e below (T35j.setTop (mkF m 38 #[.val (.int p0), .val (.int p1), .val (.int p2), .val (.int p3), .val (.int p4), .val (.int p5), .val (.int (own_f1_0 (1 : Int32) (p1 &&& (2147483647 : Int32)))), .val (.int (p2 &&& (2147483647 : Int32))), .val (.int v35_8), .unset, .unset, .unset, .unset, .unset, .unset, .unset, .unset, .unset, .unset] [(.int (3 : Int32)), (.int p4)])) t
      refine XS.iand X35j.here hx rfl (hb hby at_38) rfl ?_
      show Steps p.tables e below (T35j.setTop (mkF m 39 #[.val (.int p0), .val (.int p1), .val (.int p2), .val (.int p3), .val (.int p4), .val (.int p5), .val (.int (own_f1_0 (1 : Int32) (p1 &&& (2147483647 : Int32)))), .val (.int (p2 &&& (2147483647 : Int32))), .val (.int v35_8), .unset, .unset, .unset, .unset, .unset, .unset, .unset, .unset, .unset, .unset] [(.int (p4 &&& (3 : Int32)))])) t
      refine XS.istore X35j.here hx rfl (hb hby at_39) rfl (l' := #[.val (.int p0), .val (.int p1), .val (.int p2), .val (.int p3), .val (.int p4), .val (.int p5), .val (.int (own_f1_0 (1 : Int32) (p1 &&& (2147483647 : Int32)))), .val (.int (p2 &&& (2147483647 : Int32))), .val (.int v35_8), .val (.int (p4 &&& (3 : Int32))), .unset, .unset, .unset, .unset, .unset, .unset, .unset, .unset, .unset]) rfl ?_
      show Steps p.tables e below (T35j.setTop (mkF m 41 #[.val (.int p0), .val (.int p1), .val (.int p2), .val (.int p3), .val (.int p4), .val (.int p5), .val (.int (own_f1_0 (1 : Int32) (p1 &&& (2147483647 : Int32)))), .val (.int (p2 &&& (2147483647 : Int32))), .val (.int v35_8), .val (.int (p4 &&& (3 : Int32))), .unset, .unset, .unset, .unset, .unset, .unset, .unset, .unset, .unset] [])) t
      refine XS.iload X35j.here hx rfl (hb hby at_41) rfl ?_
      show Steps p.tables e below (T35j.setTop (mkF m 43 #[.val (.int p0), .val (.int p1), .val (.int p2), .val (.int p3), .val (.int p4), .val (.int p5), .val (.int (own_f1_0 (1 : Int32) (p1 &&& (2147483647 : Int32)))), .val (.int (p2 &&& (2147483647 : Int32))), .val (.int v35_8), .val (.int (p4 &&& (3 : Int32))), .unset, .unset, .unset, .unset, .unset, .unset, .unset, .unset, .unset] [(.int p4)])) t
      refine XS.iconst X35j.here hx rfl (hb hby at_43) ?_
      show Steps p.tables e below (T35j.setTop (mkF m 44 #[.val (.int p0), .val (.int p1), .val (.int p2), .val (.int p3), .val (.int p4), .val (.int p5), .val (.int (own_f1_0 (1 : Int32) (p1 &&& (2147483647 : Int32)))), .val (.int (p2 &&& (2147483647 : Int32))), .val (.int v35_8), .val (.int (p4 &&& (3 : Int32))), .unset, .unset, .unset, .unset, .unset, .unset, .unset, .unset, .unset] [(.int (2 : Int32)), (.int p4)])) t
      refine XS.ishr X35j.here hx rfl (hb hby at_44) rfl ?_
      show Steps p.tables e below (T35j.setTop (mkF m 45 #[.val (.int p0), .val (.int p1), .val (.int p2), .val (.int p3), .val (.int p4), .val (.int p5), .val (.int (own_f1_0 (1 : Int32) (p1 &&& (2147483647 : Int32)))), .val (.int (p2 &&& (2147483647 : Int32))), .val (.int v35_8), .val (.int (p4 &&& (3 : Int32))), .unset, .unset, .unset, .unset, .unset, .unset, .unset, .unset, .unset] [(.int (p4 >>> ((2 : Int32) &&& 31)))])) t
      refine XS.istore X35j.here hx rfl (hb hby at_45) rfl (l' := #[.val (.int p0), .val (.int p1), .val (.int p2), .val (.int p3), .val (.int p4), .val (.int p5), .val (.int (own_f1_0 (1 : Int32) (p1 &&& (2147483647 : Int32)))), .val (.int (p2 &&& (2147483647 : Int32))), .val (.int v35_8), .val (.int (p4 &&& (3 : Int32))), .val (.int (p4 >>> ((2 : Int32) &&& 31))), .unset, .unset, .unset, .unset, .unset, .unset, .unset, .unset]) rfl ?_
      show Steps p.tables e below (T35j.setTop (mkF m 47 #[.val (.int p0), .val (.int p1), .val (.int p2), .val (.int p3), .val (.int p4), .val (.int p5), .val (.int (own_f1_0 (1 : Int32) (p1 &&& (2147483647 : Int32)))), .val (.int (p2 &&& (2147483647 : Int32))), .val (.int v35_8), .val (.int (p4 &&& (3 : Int32))), .val (.int (p4 >>> ((2 : Int32) &&& 31))), .unset, .unset, .unset, .unset, .unset, .unset, .unset, .unset] [])) t
      refine XS.iload X35j.here hx rfl (hb hby at_47) rfl ?_
      show Steps p.tables e below (T35j.setTop (mkF m 49 #[.val (.int p0), .val (.int p1), .val (.int p2), .val (.int p3), .val (.int p4), .val (.int p5), .val (.int (own_f1_0 (1 : Int32) (p1 &&& (2147483647 : Int32)))), .val (.int (p2 &&& (2147483647 : Int32))), .val (.int v35_8), .val (.int (p4 &&& (3 : Int32))), .val (.int (p4 >>> ((2 : Int32) &&& 31))), .unset, .unset, .unset, .unset, .unset, .unset, .unset, .unset] [(.int (p4 &&& (3 : Int32)))])) t
      refine XS.iconst X35j.here hx rfl (hb hby at_49) ?_
      show Steps p.tables e below (T35j.setTop (mkF m 50 #[.val (.int p0), .val (.int p1), .val (.int p2), .val (.int p3), .val (.int p4), .val (.int p5), .val (.int (own_f1_0 (1 : Int32) (p1 &&& (2147483647 : Int32)))), .val (.int (p2 &&& (2147483647 : Int32))), .val (.int v35_8), .val (.int (p4 &&& (3 : Int32))), .val (.int (p4 >>> ((2 : Int32) &&& 31))), .unset, .unset, .unset, .unset, .unset, .unset, .unset, .unset] [(.int (1 : Int32)), (.int (p4 &&& (3 : Int32)))])) t
      exact k
    have j96 : ∀ (T : State) (Lc : List Loc) (X : Stand p l e room_1 s m #[(.int p0), (.int p1), (.int p2), (.int p3), (.int p4), (.int p5)] below meth c T Lc 0 0) (eT : T.heap = h0) (N : Fr n0 Lc) (v96_11 : Int64), Owe p e below s 16 128 (QL (.int (own_f0_96 p0 p1 p2 p3 v96_11 v35_8)) n0) T (mkF m 96 #[.val (.int p0), .val (.int p1), .val (.int p2), .val (.int p3), .val (.int p4), .val (.int p5), .val (.int (own_f1_0 (1 : Int32) (p1 &&& (2147483647 : Int32)))), .val (.int (p2 &&& (2147483647 : Int32))), .val (.int v35_8), .val (.int (p4 &&& (3 : Int32))), .val (.int (p4 >>> ((2 : Int32) &&& 31))), .val (.long v96_11), .second, .unset, .unset, .unset, .unset, .unset, .unset] []) := by
      intro T96j Lc96j X96j e96j N96j v96_11
      refine Owe.step (T' := T96j) (g' := (mkF m 117 #[.val (.int p0), .val (.int p1), .val (.int p2), .val (.int p3), .val (.int p4), .val (.int p5), .val (.int (own_f1_0 (1 : Int32) (p1 &&& (2147483647 : Int32)))), .val (.int (p2 &&& (2147483647 : Int32))), .val (.int v35_8), .val (.int (p4 &&& (3 : Int32))), .val (.int (p4 >>> ((2 : Int32) &&& 31))), .val (.long v96_11), .second, .val (.long (((p0.toInt64) + (v96_11 * ((own_f1_0 (1 : Int32) (p1 &&& (2147483647 : Int32))).toInt64))) + (v35_8.toInt64))), .second, .unset, .unset, .unset, .unset] [(.int (lcmpW (((p0.toInt64) + (v96_11 * ((own_f1_0 (1 : Int32) (p1 &&& (2147483647 : Int32))).toInt64))) + (v35_8.toInt64)) (-2147483648 : Int64)))])) (fun t k => ?_) ?_
      · show Steps p.tables e below (T96j.setTop (mkF m 96 #[.val (.int p0), .val (.int p1), .val (.int p2), .val (.int p3), .val (.int p4), .val (.int p5), .val (.int (own_f1_0 (1 : Int32) (p1 &&& (2147483647 : Int32)))), .val (.int (p2 &&& (2147483647 : Int32))), .val (.int v35_8), .val (.int (p4 &&& (3 : Int32))), .val (.int (p4 >>> ((2 : Int32) &&& 31))), .val (.long v96_11), .second, .unset, .unset, .unset, .unset, .unset, .unset] [])) t
        refine XS.iloadN X96j.here hx rfl (hb hby at_96) rfl ?_
        show Steps p.tables e below (T96j.setTop (mkF m 97 #[.val (.int p0), .val (.int p1), .val (.int p2), .val (.int p3), .val (.int p4), .val (.int p5), .val (.int (own_f1_0 (1 : Int32) (p1 &&& (2147483647 : Int32)))), .val (.int (p2 &&& (2147483647 : Int32))), .val (.int v35_8), .val (.int (p4 &&& (3 : Int32))), .val (.int (p4 >>> ((2 : Int32) &&& 31))), .val (.long v96_11), .second, .unset, .unset, .unset, .unset, .unset, .unset] [(.int p0)])) t
        refine XS.i2l X96j.here hx rfl (hb hby at_97) rfl ?_
        show Steps p.tables e below (T96j.setTop (mkF m 98 #[.val (.int p0), .val (.int p1), .val (.int p2), .val (.int p3), .val (.int p4), .val (.int p5), .val (.int (own_f1_0 (1 : Int32) (p1 &&& (2147483647 : Int32)))), .val (.int (p2 &&& (2147483647 : Int32))), .val (.int v35_8), .val (.int (p4 &&& (3 : Int32))), .val (.int (p4 >>> ((2 : Int32) &&& 31))), .val (.long v96_11), .second, .unset, .unset, .unset, .unset, .unset, .unset] [(.long (p0.toInt64))])) t
        refine XS.lload X96j.here hx rfl (hb hby at_98) rfl ?_
        show Steps p.tables e below (T96j.setTop (mkF m 100 #[.val (.int p0), .val (.int p1), .val (.int p2), .val (.int p3), .val (.int p4), .val (.int p5), .val (.int (own_f1_0 (1 : Int32) (p1 &&& (2147483647 : Int32)))), .val (.int (p2 &&& (2147483647 : Int32))), .val (.int v35_8), .val (.int (p4 &&& (3 : Int32))), .val (.int (p4 >>> ((2 : Int32) &&& 31))), .val (.long v96_11), .second, .unset, .unset, .unset, .unset, .unset, .unset] [(.long v96_11), (.long (p0.toInt64))])) t
        refine XS.iload X96j.here hx rfl (hb hby at_100) rfl ?_
        show Steps p.tables e below (T96j.setTop (mkF m 102 #[.val (.int p0), .val (.int p1), .val (.int p2), .val (.int p3), .val (.int p4), .val (.int p5), .val (.int (own_f1_0 (1 : Int32) (p1 &&& (2147483647 : Int32)))), .val (.int (p2 &&& (2147483647 : Int32))), .val (.int v35_8), .val (.int (p4 &&& (3 : Int32))), .val (.int (p4 >>> ((2 : Int32) &&& 31))), .val (.long v96_11), .second, .unset, .unset, .unset, .unset, .unset, .unset] [(.int (own_f1_0 (1 : Int32) (p1 &&& (2147483647 : Int32)))), (.long v96_11), (.long (p0.toInt64))])) t
        refine XS.i2l X96j.here hx rfl (hb hby at_102) rfl ?_
        show Steps p.tables e below (T96j.setTop (mkF m 103 #[.val (.int p0), .val (.int p1), .val (.int p2), .val (.int p3), .val (.int p4), .val (.int p5), .val (.int (own_f1_0 (1 : Int32) (p1 &&& (2147483647 : Int32)))), .val (.int (p2 &&& (2147483647 : Int32))), .val (.int v35_8), .val (.int (p4 &&& (3 : Int32))), .val (.int (p4 >>> ((2 : Int32) &&& 31))), .val (.long v96_11), .second, .unset, .unset, .unset, .unset, .unset, .unset] [(.long ((own_f1_0 (1 : Int32) (p1 &&& (2147483647 : Int32))).toInt64)), (.long v96_11), (.long (p0.toInt64))])) t
        refine XS.lmul X96j.here hx rfl (hb hby at_103) rfl ?_
        show Steps p.tables e below (T96j.setTop (mkF m 104 #[.val (.int p0), .val (.int p1), .val (.int p2), .val (.int p3), .val (.int p4), .val (.int p5), .val (.int (own_f1_0 (1 : Int32) (p1 &&& (2147483647 : Int32)))), .val (.int (p2 &&& (2147483647 : Int32))), .val (.int v35_8), .val (.int (p4 &&& (3 : Int32))), .val (.int (p4 >>> ((2 : Int32) &&& 31))), .val (.long v96_11), .second, .unset, .unset, .unset, .unset, .unset, .unset] [(.long (v96_11 * ((own_f1_0 (1 : Int32) (p1 &&& (2147483647 : Int32))).toInt64))), (.long (p0.toInt64))])) t
        refine XS.ladd X96j.here hx rfl (hb hby at_104) rfl ?_
        show Steps p.tables e below (T96j.setTop (mkF m 105 #[.val (.int p0), .val (.int p1), .val (.int p2), .val (.int p3), .val (.int p4), .val (.int p5), .val (.int (own_f1_0 (1 : Int32) (p1 &&& (2147483647 : Int32)))), .val (.int (p2 &&& (2147483647 : Int32))), .val (.int v35_8), .val (.int (p4 &&& (3 : Int32))), .val (.int (p4 >>> ((2 : Int32) &&& 31))), .val (.long v96_11), .second, .unset, .unset, .unset, .unset, .unset, .unset] [(.long ((p0.toInt64) + (v96_11 * ((own_f1_0 (1 : Int32) (p1 &&& (2147483647 : Int32))).toInt64))))])) t
        refine XS.iload X96j.here hx rfl (hb hby at_105) rfl ?_
        show Steps p.tables e below (T96j.setTop (mkF m 107 #[.val (.int p0), .val (.int p1), .val (.int p2), .val (.int p3), .val (.int p4), .val (.int p5), .val (.int (own_f1_0 (1 : Int32) (p1 &&& (2147483647 : Int32)))), .val (.int (p2 &&& (2147483647 : Int32))), .val (.int v35_8), .val (.int (p4 &&& (3 : Int32))), .val (.int (p4 >>> ((2 : Int32) &&& 31))), .val (.long v96_11), .second, .unset, .unset, .unset, .unset, .unset, .unset] [(.int v35_8), (.long ((p0.toInt64) + (v96_11 * ((own_f1_0 (1 : Int32) (p1 &&& (2147483647 : Int32))).toInt64))))])) t
        refine XS.i2l X96j.here hx rfl (hb hby at_107) rfl ?_
        show Steps p.tables e below (T96j.setTop (mkF m 108 #[.val (.int p0), .val (.int p1), .val (.int p2), .val (.int p3), .val (.int p4), .val (.int p5), .val (.int (own_f1_0 (1 : Int32) (p1 &&& (2147483647 : Int32)))), .val (.int (p2 &&& (2147483647 : Int32))), .val (.int v35_8), .val (.int (p4 &&& (3 : Int32))), .val (.int (p4 >>> ((2 : Int32) &&& 31))), .val (.long v96_11), .second, .unset, .unset, .unset, .unset, .unset, .unset] [(.long (v35_8.toInt64)), (.long ((p0.toInt64) + (v96_11 * ((own_f1_0 (1 : Int32) (p1 &&& (2147483647 : Int32))).toInt64))))])) t
        refine XS.ladd X96j.here hx rfl (hb hby at_108) rfl ?_
        show Steps p.tables e below (T96j.setTop (mkF m 109 #[.val (.int p0), .val (.int p1), .val (.int p2), .val (.int p3), .val (.int p4), .val (.int p5), .val (.int (own_f1_0 (1 : Int32) (p1 &&& (2147483647 : Int32)))), .val (.int (p2 &&& (2147483647 : Int32))), .val (.int v35_8), .val (.int (p4 &&& (3 : Int32))), .val (.int (p4 >>> ((2 : Int32) &&& 31))), .val (.long v96_11), .second, .unset, .unset, .unset, .unset, .unset, .unset] [(.long (((p0.toInt64) + (v96_11 * ((own_f1_0 (1 : Int32) (p1 &&& (2147483647 : Int32))).toInt64))) + (v35_8.toInt64)))])) t
        refine XS.lstore X96j.here hx rfl (hb hby at_109) rfl (l' := #[.val (.int p0), .val (.int p1), .val (.int p2), .val (.int p3), .val (.int p4), .val (.int p5), .val (.int (own_f1_0 (1 : Int32) (p1 &&& (2147483647 : Int32)))), .val (.int (p2 &&& (2147483647 : Int32))), .val (.int v35_8), .val (.int (p4 &&& (3 : Int32))), .val (.int (p4 >>> ((2 : Int32) &&& 31))), .val (.long v96_11), .second, .val (.long (((p0.toInt64) + (v96_11 * ((own_f1_0 (1 : Int32) (p1 &&& (2147483647 : Int32))).toInt64))) + (v35_8.toInt64))), .second, .unset, .unset, .unset, .unset]) rfl ?_
        show Steps p.tables e below (T96j.setTop (mkF m 111 #[.val (.int p0), .val (.int p1), .val (.int p2), .val (.int p3), .val (.int p4), .val (.int p5), .val (.int (own_f1_0 (1 : Int32) (p1 &&& (2147483647 : Int32)))), .val (.int (p2 &&& (2147483647 : Int32))), .val (.int v35_8), .val (.int (p4 &&& (3 : Int32))), .val (.int (p4 >>> ((2 : Int32) &&& 31))), .val (.long v96_11), .second, .val (.long (((p0.toInt64) + (v96_11 * ((own_f1_0 (1 : Int32) (p1 &&& (2147483647 : Int32))).toInt64))) + (v35_8.toInt64))), .second, .unset, .unset, .unset, .unset] [])) t
        refine XS.lload X96j.here hx rfl (hb hby at_111) rfl ?_
        show Steps p.tables e below (T96j.setTop (mkF m 113 #[.val (.int p0), .val (.int p1), .val (.int p2), .val (.int p3), .val (.int p4), .val (.int p5), .val (.int (own_f1_0 (1 : Int32) (p1 &&& (2147483647 : Int32)))), .val (.int (p2 &&& (2147483647 : Int32))), .val (.int v35_8), .val (.int (p4 &&& (3 : Int32))), .val (.int (p4 >>> ((2 : Int32) &&& 31))), .val (.long v96_11), .second, .val (.long (((p0.toInt64) + (v96_11 * ((own_f1_0 (1 : Int32) (p1 &&& (2147483647 : Int32))).toInt64))) + (v35_8.toInt64))), .second, .unset, .unset, .unset, .unset] [(.long (((p0.toInt64) + (v96_11 * ((own_f1_0 (1 : Int32) (p1 &&& (2147483647 : Int32))).toInt64))) + (v35_8.toInt64)))])) t
        refine X96j.ldc2Long hx hown (mvT hZ (hw _ (List.mem_of_getElem? (i := 5) rfl))) (g := (mkF m 113 #[.val (.int p0), .val (.int p1), .val (.int p2), .val (.int p3), .val (.int p4), .val (.int p5), .val (.int (own_f1_0 (1 : Int32) (p1 &&& (2147483647 : Int32)))), .val (.int (p2 &&& (2147483647 : Int32))), .val (.int v35_8), .val (.int (p4 &&& (3 : Int32))), .val (.int (p4 >>> ((2 : Int32) &&& 31))), .val (.long v96_11), .second, .val (.long (((p0.toInt64) + (v96_11 * ((own_f1_0 (1 : Int32) (p1 &&& (2147483647 : Int32))).toInt64))) + (v35_8.toInt64))), .second, .unset, .unset, .unset, .unset] [(.long (((p0.toInt64) + (v96_11 * ((own_f1_0 (1 : Int32) (p1 &&& (2147483647 : Int32))).toInt64))) + (v35_8.toInt64)))])) rfl (hb hby at_113) _ ?_
        show Steps p.tables e below (T96j.setTop (mkF m 116 #[.val (.int p0), .val (.int p1), .val (.int p2), .val (.int p3), .val (.int p4), .val (.int p5), .val (.int (own_f1_0 (1 : Int32) (p1 &&& (2147483647 : Int32)))), .val (.int (p2 &&& (2147483647 : Int32))), .val (.int v35_8), .val (.int (p4 &&& (3 : Int32))), .val (.int (p4 >>> ((2 : Int32) &&& 31))), .val (.long v96_11), .second, .val (.long (((p0.toInt64) + (v96_11 * ((own_f1_0 (1 : Int32) (p1 &&& (2147483647 : Int32))).toInt64))) + (v35_8.toInt64))), .second, .unset, .unset, .unset, .unset] [(.long (-2147483648 : Int64)), (.long (((p0.toInt64) + (v96_11 * ((own_f1_0 (1 : Int32) (p1 &&& (2147483647 : Int32))).toInt64))) + (v35_8.toInt64)))])) t
        refine XS.lcmp X96j.here hx rfl (hb hby at_116) rfl ?_
        show Steps p.tables e below (T96j.setTop (mkF m 117 #[.val (.int p0), .val (.int p1), .val (.int p2), .val (.int p3), .val (.int p4), .val (.int p5), .val (.int (own_f1_0 (1 : Int32) (p1 &&& (2147483647 : Int32)))), .val (.int (p2 &&& (2147483647 : Int32))), .val (.int v35_8), .val (.int (p4 &&& (3 : Int32))), .val (.int (p4 >>> ((2 : Int32) &&& 31))), .val (.long v96_11), .second, .val (.long (((p0.toInt64) + (v96_11 * ((own_f1_0 (1 : Int32) (p1 &&& (2147483647 : Int32))).toInt64))) + (v35_8.toInt64))), .second, .unset, .unset, .unset, .unset] [(.int (lcmpW (((p0.toInt64) + (v96_11 * ((own_f1_0 (1 : Int32) (p1 &&& (2147483647 : Int32))).toInt64))) + (v35_8.toInt64)) (-2147483648 : Int64)))])) t
        exact k
      by_cases hc117 : (lcmpW (((p0.toInt64) + (v96_11 * ((own_f1_0 (1 : Int32) (p1 &&& (2147483647 : Int32))).toInt64))) + (v35_8.toInt64)) (-2147483648 : Int64)) < (0 : Int32)
      · refine Owe.step (T' := T96j) (g' := (mkF m 129 #[.val (.int p0), .val (.int p1), .val (.int p2), .val (.int p3), .val (.int p4), .val (.int p5), .val (.int (own_f1_0 (1 : Int32) (p1 &&& (2147483647 : Int32)))), .val (.int (p2 &&& (2147483647 : Int32))), .val (.int v35_8), .val (.int (p4 &&& (3 : Int32))), .val (.int (p4 >>> ((2 : Int32) &&& 31))), .val (.long v96_11), .second, .val (.long (((p0.toInt64) + (v96_11 * ((own_f1_0 (1 : Int32) (p1 &&& (2147483647 : Int32))).toInt64))) + (v35_8.toInt64))), .second, .unset, .unset, .unset, .unset] [])) (fun t k => ?_) ?_
        · show Steps p.tables e below (T96j.setTop (mkF m 117 #[.val (.int p0), .val (.int p1), .val (.int p2), .val (.int p3), .val (.int p4), .val (.int p5), .val (.int (own_f1_0 (1 : Int32) (p1 &&& (2147483647 : Int32)))), .val (.int (p2 &&& (2147483647 : Int32))), .val (.int v35_8), .val (.int (p4 &&& (3 : Int32))), .val (.int (p4 >>> ((2 : Int32) &&& 31))), .val (.long v96_11), .second, .val (.long (((p0.toInt64) + (v96_11 * ((own_f1_0 (1 : Int32) (p1 &&& (2147483647 : Int32))).toInt64))) + (v35_8.toInt64))), .second, .unset, .unset, .unset, .unset] [(.int (lcmpW (((p0.toInt64) + (v96_11 * ((own_f1_0 (1 : Int32) (p1 &&& (2147483647 : Int32))).toInt64))) + (v35_8.toInt64)) (-2147483648 : Int64)))])) t
          refine XS.ifYes X96j.here hx rfl (pc0 := 117) (pc' := 129) rfl (hb hby at_117) rfl ((if0 _ _).trans (tlt hc117).1) (by decide) (by decide) ?_
          show Steps p.tables e below (T96j.setTop (mkF m 129 #[.val (.int p0), .val (.int p1), .val (.int p2), .val (.int p3), .val (.int p4), .val (.int p5), .val (.int (own_f1_0 (1 : Int32) (p1 &&& (2147483647 : Int32)))), .val (.int (p2 &&& (2147483647 : Int32))), .val (.int v35_8), .val (.int (p4 &&& (3 : Int32))), .val (.int (p4 >>> ((2 : Int32) &&& 31))), .val (.long v96_11), .second, .val (.long (((p0.toInt64) + (v96_11 * ((own_f1_0 (1 : Int32) (p1 &&& (2147483647 : Int32))).toInt64))) + (v35_8.toInt64))), .second, .unset, .unset, .unset, .unset] [])) t
          exact k
        rw [show own_f0_96 p0 p1 p2 p3 v96_11 v35_8 = (1 : Int32) from (by rw [own_f0_96, if_pos hc117])]
        refine Owe.ret X96j Bd.notSynchronized (v := (some (.int (1 : Int32)))) (fun h => by rw [Bd.returns] at h; cases h) (fun fs hr => ?_) ⟨rfl, N96j⟩ (by decide) (by decide)
        show Steps p.tables e below (T96j.setTop (mkF m 129 #[.val (.int p0), .val (.int p1), .val (.int p2), .val (.int p3), .val (.int p4), .val (.int p5), .val (.int (own_f1_0 (1 : Int32) (p1 &&& (2147483647 : Int32)))), .val (.int (p2 &&& (2147483647 : Int32))), .val (.int v35_8), .val (.int (p4 &&& (3 : Int32))), .val (.int (p4 >>> ((2 : Int32) &&& 31))), .val (.long v96_11), .second, .val (.long (((p0.toInt64) + (v96_11 * ((own_f1_0 (1 : Int32) (p1 &&& (2147483647 : Int32))).toInt64))) + (v35_8.toInt64))), .second, .unset, .unset, .unset, .unset] [])) _
        refine XS.iconst X96j.here hx rfl (hb hby at_129) ?_
        show Steps p.tables e below (T96j.setTop (mkF m 130 #[.val (.int p0), .val (.int p1), .val (.int p2), .val (.int p3), .val (.int p4), .val (.int p5), .val (.int (own_f1_0 (1 : Int32) (p1 &&& (2147483647 : Int32)))), .val (.int (p2 &&& (2147483647 : Int32))), .val (.int v35_8), .val (.int (p4 &&& (3 : Int32))), .val (.int (p4 >>> ((2 : Int32) &&& 31))), .val (.long v96_11), .second, .val (.long (((p0.toInt64) + (v96_11 * ((own_f1_0 (1 : Int32) (p1 &&& (2147483647 : Int32))).toInt64))) + (v35_8.toInt64))), .second, .unset, .unset, .unset, .unset] [(.int (1 : Int32))])) _
        exact retN X96j hx (t := .boolean) Bd.returns (by simp) (hb hby at_130) hr
      · refine Owe.step (T' := T96j) (g' := (mkF m 120 #[.val (.int p0), .val (.int p1), .val (.int p2), .val (.int p3), .val (.int p4), .val (.int p5), .val (.int (own_f1_0 (1 : Int32) (p1 &&& (2147483647 : Int32)))), .val (.int (p2 &&& (2147483647 : Int32))), .val (.int v35_8), .val (.int (p4 &&& (3 : Int32))), .val (.int (p4 >>> ((2 : Int32) &&& 31))), .val (.long v96_11), .second, .val (.long (((p0.toInt64) + (v96_11 * ((own_f1_0 (1 : Int32) (p1 &&& (2147483647 : Int32))).toInt64))) + (v35_8.toInt64))), .second, .unset, .unset, .unset, .unset] [])) (fun t k => ?_) ?_
        · show Steps p.tables e below (T96j.setTop (mkF m 117 #[.val (.int p0), .val (.int p1), .val (.int p2), .val (.int p3), .val (.int p4), .val (.int p5), .val (.int (own_f1_0 (1 : Int32) (p1 &&& (2147483647 : Int32)))), .val (.int (p2 &&& (2147483647 : Int32))), .val (.int v35_8), .val (.int (p4 &&& (3 : Int32))), .val (.int (p4 >>> ((2 : Int32) &&& 31))), .val (.long v96_11), .second, .val (.long (((p0.toInt64) + (v96_11 * ((own_f1_0 (1 : Int32) (p1 &&& (2147483647 : Int32))).toInt64))) + (v35_8.toInt64))), .second, .unset, .unset, .unset, .unset] [(.int (lcmpW (((p0.toInt64) + (v96_11 * ((own_f1_0 (1 : Int32) (p1 &&& (2147483647 : Int32))).toInt64))) + (v35_8.toInt64)) (-2147483648 : Int64)))])) t
          refine XS.ifNo X96j.here hx rfl (hb hby at_117) rfl ((if0 _ _).trans (flt hc117).1) ?_
          show Steps p.tables e below (T96j.setTop (mkF m 120 #[.val (.int p0), .val (.int p1), .val (.int p2), .val (.int p3), .val (.int p4), .val (.int p5), .val (.int (own_f1_0 (1 : Int32) (p1 &&& (2147483647 : Int32)))), .val (.int (p2 &&& (2147483647 : Int32))), .val (.int v35_8), .val (.int (p4 &&& (3 : Int32))), .val (.int (p4 >>> ((2 : Int32) &&& 31))), .val (.long v96_11), .second, .val (.long (((p0.toInt64) + (v96_11 * ((own_f1_0 (1 : Int32) (p1 &&& (2147483647 : Int32))).toInt64))) + (v35_8.toInt64))), .second, .unset, .unset, .unset, .unset] [])) t
          exact k
        refine Owe.step (T' := T96j) (g' := (mkF m 126 #[.val (.int p0), .val (.int p1), .val (.int p2), .val (.int p3), .val (.int p4), .val (.int p5), .val (.int (own_f1_0 (1 : Int32) (p1 &&& (2147483647 : Int32)))), .val (.int (p2 &&& (2147483647 : Int32))), .val (.int v35_8), .val (.int (p4 &&& (3 : Int32))), .val (.int (p4 >>> ((2 : Int32) &&& 31))), .val (.long v96_11), .second, .val (.long (((p0.toInt64) + (v96_11 * ((own_f1_0 (1 : Int32) (p1 &&& (2147483647 : Int32))).toInt64))) + (v35_8.toInt64))), .second, .unset, .unset, .unset, .unset] [(.int (lcmpW (((p0.toInt64) + (v96_11 * ((own_f1_0 (1 : Int32) (p1 &&& (2147483647 : Int32))).toInt64))) + (v35_8.toInt64)) (2147483647 : Int64)))])) (fun t k => ?_) ?_
        · show Steps p.tables e below (T96j.setTop (mkF m 120 #[.val (.int p0), .val (.int p1), .val (.int p2), .val (.int p3), .val (.int p4), .val (.int p5), .val (.int (own_f1_0 (1 : Int32) (p1 &&& (2147483647 : Int32)))), .val (.int (p2 &&& (2147483647 : Int32))), .val (.int v35_8), .val (.int (p4 &&& (3 : Int32))), .val (.int (p4 >>> ((2 : Int32) &&& 31))), .val (.long v96_11), .second, .val (.long (((p0.toInt64) + (v96_11 * ((own_f1_0 (1 : Int32) (p1 &&& (2147483647 : Int32))).toInt64))) + (v35_8.toInt64))), .second, .unset, .unset, .unset, .unset] [])) t
          refine XS.lload X96j.here hx rfl (hb hby at_120) rfl ?_
          show Steps p.tables e below (T96j.setTop (mkF m 122 #[.val (.int p0), .val (.int p1), .val (.int p2), .val (.int p3), .val (.int p4), .val (.int p5), .val (.int (own_f1_0 (1 : Int32) (p1 &&& (2147483647 : Int32)))), .val (.int (p2 &&& (2147483647 : Int32))), .val (.int v35_8), .val (.int (p4 &&& (3 : Int32))), .val (.int (p4 >>> ((2 : Int32) &&& 31))), .val (.long v96_11), .second, .val (.long (((p0.toInt64) + (v96_11 * ((own_f1_0 (1 : Int32) (p1 &&& (2147483647 : Int32))).toInt64))) + (v35_8.toInt64))), .second, .unset, .unset, .unset, .unset] [(.long (((p0.toInt64) + (v96_11 * ((own_f1_0 (1 : Int32) (p1 &&& (2147483647 : Int32))).toInt64))) + (v35_8.toInt64)))])) t
          refine X96j.ldc2Long hx hown (mvT hZ (hw _ (List.mem_of_getElem? (i := 6) rfl))) (g := (mkF m 122 #[.val (.int p0), .val (.int p1), .val (.int p2), .val (.int p3), .val (.int p4), .val (.int p5), .val (.int (own_f1_0 (1 : Int32) (p1 &&& (2147483647 : Int32)))), .val (.int (p2 &&& (2147483647 : Int32))), .val (.int v35_8), .val (.int (p4 &&& (3 : Int32))), .val (.int (p4 >>> ((2 : Int32) &&& 31))), .val (.long v96_11), .second, .val (.long (((p0.toInt64) + (v96_11 * ((own_f1_0 (1 : Int32) (p1 &&& (2147483647 : Int32))).toInt64))) + (v35_8.toInt64))), .second, .unset, .unset, .unset, .unset] [(.long (((p0.toInt64) + (v96_11 * ((own_f1_0 (1 : Int32) (p1 &&& (2147483647 : Int32))).toInt64))) + (v35_8.toInt64)))])) rfl (hb hby at_122) _ ?_
          show Steps p.tables e below (T96j.setTop (mkF m 125 #[.val (.int p0), .val (.int p1), .val (.int p2), .val (.int p3), .val (.int p4), .val (.int p5), .val (.int (own_f1_0 (1 : Int32) (p1 &&& (2147483647 : Int32)))), .val (.int (p2 &&& (2147483647 : Int32))), .val (.int v35_8), .val (.int (p4 &&& (3 : Int32))), .val (.int (p4 >>> ((2 : Int32) &&& 31))), .val (.long v96_11), .second, .val (.long (((p0.toInt64) + (v96_11 * ((own_f1_0 (1 : Int32) (p1 &&& (2147483647 : Int32))).toInt64))) + (v35_8.toInt64))), .second, .unset, .unset, .unset, .unset] [(.long (2147483647 : Int64)), (.long (((p0.toInt64) + (v96_11 * ((own_f1_0 (1 : Int32) (p1 &&& (2147483647 : Int32))).toInt64))) + (v35_8.toInt64)))])) t
          refine XS.lcmp X96j.here hx rfl (hb hby at_125) rfl ?_
          show Steps p.tables e below (T96j.setTop (mkF m 126 #[.val (.int p0), .val (.int p1), .val (.int p2), .val (.int p3), .val (.int p4), .val (.int p5), .val (.int (own_f1_0 (1 : Int32) (p1 &&& (2147483647 : Int32)))), .val (.int (p2 &&& (2147483647 : Int32))), .val (.int v35_8), .val (.int (p4 &&& (3 : Int32))), .val (.int (p4 >>> ((2 : Int32) &&& 31))), .val (.long v96_11), .second, .val (.long (((p0.toInt64) + (v96_11 * ((own_f1_0 (1 : Int32) (p1 &&& (2147483647 : Int32))).toInt64))) + (v35_8.toInt64))), .second, .unset, .unset, .unset, .unset] [(.int (lcmpW (((p0.toInt64) + (v96_11 * ((own_f1_0 (1 : Int32) (p1 &&& (2147483647 : Int32))).toInt64))) + (v35_8.toInt64)) (2147483647 : Int64)))])) t
          exact k
        by_cases hc126 : (0 : Int32) < (lcmpW (((p0.toInt64) + (v96_11 * ((own_f1_0 (1 : Int32) (p1 &&& (2147483647 : Int32))).toInt64))) + (v35_8.toInt64)) (2147483647 : Int64))
        · refine Owe.step (T' := T96j) (g' := (mkF m 129 #[.val (.int p0), .val (.int p1), .val (.int p2), .val (.int p3), .val (.int p4), .val (.int p5), .val (.int (own_f1_0 (1 : Int32) (p1 &&& (2147483647 : Int32)))), .val (.int (p2 &&& (2147483647 : Int32))), .val (.int v35_8), .val (.int (p4 &&& (3 : Int32))), .val (.int (p4 >>> ((2 : Int32) &&& 31))), .val (.long v96_11), .second, .val (.long (((p0.toInt64) + (v96_11 * ((own_f1_0 (1 : Int32) (p1 &&& (2147483647 : Int32))).toInt64))) + (v35_8.toInt64))), .second, .unset, .unset, .unset, .unset] [])) (fun t k => ?_) ?_
          · show Steps p.tables e below (T96j.setTop (mkF m 126 #[.val (.int p0), .val (.int p1), .val (.int p2), .val (.int p3), .val (.int p4), .val (.int p5), .val (.int (own_f1_0 (1 : Int32) (p1 &&& (2147483647 : Int32)))), .val (.int (p2 &&& (2147483647 : Int32))), .val (.int v35_8), .val (.int (p4 &&& (3 : Int32))), .val (.int (p4 >>> ((2 : Int32) &&& 31))), .val (.long v96_11), .second, .val (.long (((p0.toInt64) + (v96_11 * ((own_f1_0 (1 : Int32) (p1 &&& (2147483647 : Int32))).toInt64))) + (v35_8.toInt64))), .second, .unset, .unset, .unset, .unset] [(.int (lcmpW (((p0.toInt64) + (v96_11 * ((own_f1_0 (1 : Int32) (p1 &&& (2147483647 : Int32))).toInt64))) + (v35_8.toInt64)) (2147483647 : Int64)))])) t
            refine XS.ifNo X96j.here hx rfl (hb hby at_126) rfl ((if0 _ _).trans (tlt hc126).2.2.2) ?_
            show Steps p.tables e below (T96j.setTop (mkF m 129 #[.val (.int p0), .val (.int p1), .val (.int p2), .val (.int p3), .val (.int p4), .val (.int p5), .val (.int (own_f1_0 (1 : Int32) (p1 &&& (2147483647 : Int32)))), .val (.int (p2 &&& (2147483647 : Int32))), .val (.int v35_8), .val (.int (p4 &&& (3 : Int32))), .val (.int (p4 >>> ((2 : Int32) &&& 31))), .val (.long v96_11), .second, .val (.long (((p0.toInt64) + (v96_11 * ((own_f1_0 (1 : Int32) (p1 &&& (2147483647 : Int32))).toInt64))) + (v35_8.toInt64))), .second, .unset, .unset, .unset, .unset] [])) t
            exact k
          rw [show own_f0_96 p0 p1 p2 p3 v96_11 v35_8 = (1 : Int32) from (by rw [own_f0_96, if_neg hc117, if_pos hc126])]
          refine Owe.ret X96j Bd.notSynchronized (v := (some (.int (1 : Int32)))) (fun h => by rw [Bd.returns] at h; cases h) (fun fs hr => ?_) ⟨rfl, N96j⟩ (by decide) (by decide)
          show Steps p.tables e below (T96j.setTop (mkF m 129 #[.val (.int p0), .val (.int p1), .val (.int p2), .val (.int p3), .val (.int p4), .val (.int p5), .val (.int (own_f1_0 (1 : Int32) (p1 &&& (2147483647 : Int32)))), .val (.int (p2 &&& (2147483647 : Int32))), .val (.int v35_8), .val (.int (p4 &&& (3 : Int32))), .val (.int (p4 >>> ((2 : Int32) &&& 31))), .val (.long v96_11), .second, .val (.long (((p0.toInt64) + (v96_11 * ((own_f1_0 (1 : Int32) (p1 &&& (2147483647 : Int32))).toInt64))) + (v35_8.toInt64))), .second, .unset, .unset, .unset, .unset] [])) _
          refine XS.iconst X96j.here hx rfl (hb hby at_129) ?_
          show Steps p.tables e below (T96j.setTop (mkF m 130 #[.val (.int p0), .val (.int p1), .val (.int p2), .val (.int p3), .val (.int p4), .val (.int p5), .val (.int (own_f1_0 (1 : Int32) (p1 &&& (2147483647 : Int32)))), .val (.int (p2 &&& (2147483647 : Int32))), .val (.int v35_8), .val (.int (p4 &&& (3 : Int32))), .val (.int (p4 >>> ((2 : Int32) &&& 31))), .val (.long v96_11), .second, .val (.long (((p0.toInt64) + (v96_11 * ((own_f1_0 (1 : Int32) (p1 &&& (2147483647 : Int32))).toInt64))) + (v35_8.toInt64))), .second, .unset, .unset, .unset, .unset] [(.int (1 : Int32))])) _
          exact retN X96j hx (t := .boolean) Bd.returns (by simp) (hb hby at_130) hr
        · refine Owe.step (T' := T96j) (g' := (mkF m 131 #[.val (.int p0), .val (.int p1), .val (.int p2), .val (.int p3), .val (.int p4), .val (.int p5), .val (.int (own_f1_0 (1 : Int32) (p1 &&& (2147483647 : Int32)))), .val (.int (p2 &&& (2147483647 : Int32))), .val (.int v35_8), .val (.int (p4 &&& (3 : Int32))), .val (.int (p4 >>> ((2 : Int32) &&& 31))), .val (.long v96_11), .second, .val (.long (((p0.toInt64) + (v96_11 * ((own_f1_0 (1 : Int32) (p1 &&& (2147483647 : Int32))).toInt64))) + (v35_8.toInt64))), .second, .unset, .unset, .unset, .unset] [])) (fun t k => ?_) ?_
          · show Steps p.tables e below (T96j.setTop (mkF m 126 #[.val (.int p0), .val (.int p1), .val (.int p2), .val (.int p3), .val (.int p4), .val (.int p5), .val (.int (own_f1_0 (1 : Int32) (p1 &&& (2147483647 : Int32)))), .val (.int (p2 &&& (2147483647 : Int32))), .val (.int v35_8), .val (.int (p4 &&& (3 : Int32))), .val (.int (p4 >>> ((2 : Int32) &&& 31))), .val (.long v96_11), .second, .val (.long (((p0.toInt64) + (v96_11 * ((own_f1_0 (1 : Int32) (p1 &&& (2147483647 : Int32))).toInt64))) + (v35_8.toInt64))), .second, .unset, .unset, .unset, .unset] [(.int (lcmpW (((p0.toInt64) + (v96_11 * ((own_f1_0 (1 : Int32) (p1 &&& (2147483647 : Int32))).toInt64))) + (v35_8.toInt64)) (2147483647 : Int64)))])) t
            refine XS.ifYes X96j.here hx rfl (pc0 := 126) (pc' := 131) rfl (hb hby at_126) rfl ((if0 _ _).trans (flt hc126).2.2.2) (by decide) (by decide) ?_
            show Steps p.tables e below (T96j.setTop (mkF m 131 #[.val (.int p0), .val (.int p1), .val (.int p2), .val (.int p3), .val (.int p4), .val (.int p5), .val (.int (own_f1_0 (1 : Int32) (p1 &&& (2147483647 : Int32)))), .val (.int (p2 &&& (2147483647 : Int32))), .val (.int v35_8), .val (.int (p4 &&& (3 : Int32))), .val (.int (p4 >>> ((2 : Int32) &&& 31))), .val (.long v96_11), .second, .val (.long (((p0.toInt64) + (v96_11 * ((own_f1_0 (1 : Int32) (p1 &&& (2147483647 : Int32))).toInt64))) + (v35_8.toInt64))), .second, .unset, .unset, .unset, .unset] [])) t
            exact k
          obtain ⟨T2, h2, X2, e2, E2, A2, D2, -, st2⟩ := newO X96j hx hZ hown (hw _ (List.mem_of_getElem? (i := 7) rfl)) (hw _ (List.mem_of_getElem? (i := 8) rfl)) (hw _ (List.mem_of_getElem? (i := 9) rfl)) e96j (g := (mkF m 131 #[.val (.int p0), .val (.int p1), .val (.int p2), .val (.int p3), .val (.int p4), .val (.int p5), .val (.int (own_f1_0 (1 : Int32) (p1 &&& (2147483647 : Int32)))), .val (.int (p2 &&& (2147483647 : Int32))), .val (.int v35_8), .val (.int (p4 &&& (3 : Int32))), .val (.int (p4 >>> ((2 : Int32) &&& 31))), .val (.long v96_11), .second, .val (.long (((p0.toInt64) + (v96_11 * ((own_f1_0 (1 : Int32) (p1 &&& (2147483647 : Int32))).toInt64))) + (v35_8.toInt64))), .second, .unset, .unset, .unset, .unset] [])) rfl (hb hby at_131) (by decide) (by decide)
          obtain ⟨b2, g2⟩ : ∃ z, z = h0.size := ⟨_, rfl⟩
          rw [← g2] at A2 D2 st2
          have g_b2 : n0 ≤ b2 := Nat.le_trans Z0 (Nat.le_of_eq g2.symm)
          have Zn2 : n0 ≤ h2.size := Nat.le_trans Z0 E2.1
          have D2_22 : Fld Z h2 b2 "com/example/rasterline/rasterline/ReadArea$Axis" "first" "I" (.int (0 : Int32)) := D2 (Or.inr (hw _ (List.mem_of_getElem? (i := 22) rfl))) (ty := .int) (by decide)
          have D2_24 : Fld Z h2 b2 "com/example/rasterline/rasterline/ReadArea$Axis" "period" "I" (.int (0 : Int32)) := D2 (Or.inr (hw _ (List.mem_of_getElem? (i := 24) rfl))) (ty := .int) (by decide)
          have D2_26 : Fld Z h2 b2 "com/example/rasterline/rasterline/ReadArea$Axis" "count" "I" (.int (0 : Int32)) := D2 (Or.inr (hw _ (List.mem_of_getElem? (i := 26) rfl))) (ty := .int) (by decide)
          have D2_28 : Fld Z h2 b2 "com/example/rasterline/rasterline/ReadArea$Axis" "destination" "I" (.int (0 : Int32)) := D2 (Or.inr (hw _ (List.mem_of_getElem? (i := 28) rfl))) (ty := .int) (by decide)
          obtain ⟨_, _, ⟨T3, L3, k3, n3⟩, -, X3, ⟨Lc3, hQ3, l3, y3, z3⟩, st3⟩ := X2.specialBack hx (y := (⟨"com/example/rasterline/rasterline/ReadArea$Axis", "<init>", "(IIII)V"⟩ : MethodName)) rfl hown (mvT hZ (hw _ (List.mem_of_getElem? (i := 10) rfl))) (mvT hZ (hw _ (List.mem_of_getElem? (i := 11) rfl))) (mvT hZ (hw _ (List.mem_of_getElem? (i := 12) rfl))) (by decide) (backOf (W := 1) (own_rm2 l Z aA hw [] b2 p0 (own_f1_0 (1 : Int32) (p1 &&& (2147483647 : Int32))) (p2 &&& (2147483647 : Int32)) p3 h2 n0 Zn2 A2 D2_22 D2_24 D2_26 D2_28 g_b2 (own_p1 p1) (own_cn p2)) hZ (hw _ (List.mem_of_getElem? (i := 12) rfl)) (hw _ (List.mem_of_getElem? (i := 9) rfl)) (by decide) (by decide)) (g := (mkF m 141 #[.val (.int p0), .val (.int p1), .val (.int p2), .val (.int p3), .val (.int p4), .val (.int p5), .val (.int (own_f1_0 (1 : Int32) (p1 &&& (2147483647 : Int32)))), .val (.int (p2 &&& (2147483647 : Int32))), .val (.int v35_8), .val (.int (p4 &&& (3 : Int32))), .val (.int (p4 >>> ((2 : Int32) &&& 31))), .val (.long v96_11), .second, .val (.long (((p0.toInt64) + (v96_11 * ((own_f1_0 (1 : Int32) (p1 &&& (2147483647 : Int32))).toInt64))) + (v35_8.toInt64))), .second, .unset, .unset, .unset, .unset] [(.int p3), (.int (p2 &&& (2147483647 : Int32))), (.int (own_f1_0 (1 : Int32) (p1 &&& (2147483647 : Int32)))), (.int p0), (.ref b2), (.ref b2)])) rfl (by rw [hml]; rfl) (Steps.refl _) (a := b2) (argsL := [(.int p0), (.int (own_f1_0 (1 : Int32) (p1 &&& (2147483647 : Int32)))), (.int (p2 &&& (2147483647 : Int32))), (.int p3)]) (rest := [(.ref b2)]) (lenOf own_pd2 rfl) rfl (by show 2 * 0 + _ ≤ _; exact Nat.le_of_eq rfl) (hb hby at_141) (fun _ _ => ⟨rfl, e2, (by decide : 1 + 0 ≤ _), (by decide : 4 + 0 ≤ _)⟩)
          dsimp only [Pt.U, Pt.locs, Pt.cells, Pt.slots] at X3 l3 y3 z3 st3 hQ3
          subst l3 y3 z3
          obtain ⟨h3, eh3⟩ : ∃ z, T3.heap = z := ⟨_, rfl⟩
          rw [eh3] at hQ3
          obtain ⟨rfl, N3q, K3q, G3_0, G3_1, G3_2, G3_3, G3_4⟩ := hQ3
          have N3 := Fr.app N96j N3q
          have Zn3 : n0 ≤ h3.size := Nat.le_trans Zn2 K3q.1
          obtain ⟨cq4, kq4, q4a, q4b, q4c⟩ := isOf hZ eh3 G3_0
          obtain ⟨_, _, ⟨T4, L4, k4, n4⟩, -, X4, ⟨Lc4, hQ4, l4, y4, z4⟩, st4⟩ := X3.virtualBack hx (y := (⟨"com/example/rasterline/rasterline/ReadArea$Axis", "destinationOf", "(I)I"⟩ : MethodName)) (z := (⟨"com/example/rasterline/rasterline/ReadArea$Axis", "destinationOf", "(I)I"⟩ : MethodName)) hown (mvT hZ (hw _ (List.mem_of_getElem? (i := 29) rfl))) (mvT hZ (hw _ (List.mem_of_getElem? (i := 30) rfl))) (notFace_of_selects (args := #[]) (mvT hZ (hw _ (List.mem_of_getElem? (i := 32) rfl)))) (mvT hZ (hw _ (List.mem_of_getElem? (i := 32) rfl))) (mvT hZ (hw _ (List.mem_of_getElem? (i := 31) rfl))) (by decide) (backOf (W := 0) (own_rm5 l Z aA hw [] b2 ((((p0.toInt64) + (v96_11 * ((own_f1_0 (1 : Int32) (p1 &&& (2147483647 : Int32))).toInt64))) + (v35_8.toInt64)).toInt32) p0 (own_f1_0 (1 : Int32) (p1 &&& (2147483647 : Int32))) (p2 &&& (2147483647 : Int32)) p3 h3 n0 Zn3 G3_1 G3_2 G3_3 G3_4 (own_pnz64 p1)) hZ (hw _ (List.mem_of_getElem? (i := 33) rfl)) (hw _ (List.mem_of_getElem? (i := 9) rfl)) (by decide) (by decide)) q4a q4c (g := (mkF m 151 #[.val (.int p0), .val (.int p1), .val (.int p2), .val (.int p3), .val (.int p4), .val (.int p5), .val (.int (own_f1_0 (1 : Int32) (p1 &&& (2147483647 : Int32)))), .val (.int (p2 &&& (2147483647 : Int32))), .val (.int v35_8), .val (.int (p4 &&& (3 : Int32))), .val (.int (p4 >>> ((2 : Int32) &&& 31))), .val (.long v96_11), .second, .val (.long (((p0.toInt64) + (v96_11 * ((own_f1_0 (1 : Int32) (p1 &&& (2147483647 : Int32))).toInt64))) + (v35_8.toInt64))), .second, .val (.ref b2), .unset, .unset, .unset] [(.int ((((p0.toInt64) + (v96_11 * ((own_f1_0 (1 : Int32) (p1 &&& (2147483647 : Int32))).toInt64))) + (v35_8.toInt64)).toInt32)), (.ref b2)])) rfl (by rw [hml]; rfl) (Steps.refl _) (argsL := [(.int ((((p0.toInt64) + (v96_11 * ((own_f1_0 (1 : Int32) (p1 &&& (2147483647 : Int32))).toInt64))) + (v35_8.toInt64)).toInt32))]) (rest := []) (lenOf own_pd3 rfl) rfl (by show 2 * 0 + _ ≤ _; exact Nat.le_of_eq rfl) (hb hby at_151) (fun _ _ => ⟨rfl, eh3, (by decide : 1 + 0 ≤ _), (by decide : 4 + 0 ≤ _)⟩)
          dsimp only [Pt.U, Pt.locs, Pt.cells, Pt.slots] at X4 l4 y4 z4 st4 hQ4
          subst l4 y4 z4
          obtain ⟨rfl, N4q, e4⟩ := hQ4
          have N4 := Fr.app N3 N4q
          refine Owe.step (T' := T4) (g' := (mkF m 158 #[.val (.int p0), .val (.int p1), .val (.int p2), .val (.int p3), .val (.int p4), .val (.int p5), .val (.int (own_f1_0 (1 : Int32) (p1 &&& (2147483647 : Int32)))), .val (.int (p2 &&& (2147483647 : Int32))), .val (.int v35_8), .val (.int (p4 &&& (3 : Int32))), .val (.int (p4 >>> ((2 : Int32) &&& 31))), .val (.long v96_11), .second, .val (.long (((p0.toInt64) + (v96_11 * ((own_f1_0 (1 : Int32) (p1 &&& (2147483647 : Int32))).toInt64))) + (v35_8.toInt64))), .second, .val (.ref b2), .val (.int (own_f5_0 ((((p0.toInt64) + (v96_11 * ((own_f1_0 (1 : Int32) (p1 &&& (2147483647 : Int32))).toInt64))) + (v35_8.toInt64)).toInt32) p0 (own_f1_0 (1 : Int32) (p1 &&& (2147483647 : Int32))) (p2 &&& (2147483647 : Int32)) p3)), .unset, .unset] [(.int v35_8)])) (fun t k => ?_) ?_
          · show Steps p.tables e below (T96j.setTop (mkF m 131 #[.val (.int p0), .val (.int p1), .val (.int p2), .val (.int p3), .val (.int p4), .val (.int p5), .val (.int (own_f1_0 (1 : Int32) (p1 &&& (2147483647 : Int32)))), .val (.int (p2 &&& (2147483647 : Int32))), .val (.int v35_8), .val (.int (p4 &&& (3 : Int32))), .val (.int (p4 >>> ((2 : Int32) &&& 31))), .val (.long v96_11), .second, .val (.long (((p0.toInt64) + (v96_11 * ((own_f1_0 (1 : Int32) (p1 &&& (2147483647 : Int32))).toInt64))) + (v35_8.toInt64))), .second, .unset, .unset, .unset, .unset] [])) t
            refine st2 _ ?_
            show Steps p.tables e below (T2.setTop (mkF m 134 #[.val (.int p0), .val (.int p1), .val (.int p2), .val (.int p3), .val (.int p4), .val (.int p5), .val (.int (own_f1_0 (1 : Int32) (p1 &&& (2147483647 : Int32)))), .val (.int (p2 &&& (2147483647 : Int32))), .val (.int v35_8), .val (.int (p4 &&& (3 : Int32))), .val (.int (p4 >>> ((2 : Int32) &&& 31))), .val (.long v96_11), .second, .val (.long (((p0.toInt64) + (v96_11 * ((own_f1_0 (1 : Int32) (p1 &&& (2147483647 : Int32))).toInt64))) + (v35_8.toInt64))), .second, .unset, .unset, .unset, .unset] [(.ref b2)])) t
            refine XS.dup X2.here hx rfl (hb hby at_134) rfl rfl ?_
            show Steps p.tables e below (T2.setTop (mkF m 135 #[.val (.int p0), .val (.int p1), .val (.int p2), .val (.int p3), .val (.int p4), .val (.int p5), .val (.int (own_f1_0 (1 : Int32) (p1 &&& (2147483647 : Int32)))), .val (.int (p2 &&& (2147483647 : Int32))), .val (.int v35_8), .val (.int (p4 &&& (3 : Int32))), .val (.int (p4 >>> ((2 : Int32) &&& 31))), .val (.long v96_11), .second, .val (.long (((p0.toInt64) + (v96_11 * ((own_f1_0 (1 : Int32) (p1 &&& (2147483647 : Int32))).toInt64))) + (v35_8.toInt64))), .second, .unset, .unset, .unset, .unset] [(.ref b2), (.ref b2)])) t
            refine XS.iloadN X2.here hx rfl (hb hby at_135) rfl ?_
            show Steps p.tables e below (T2.setTop (mkF m 136 #[.val (.int p0), .val (.int p1), .val (.int p2), .val (.int p3), .val (.int p4), .val (.int p5), .val (.int (own_f1_0 (1 : Int32) (p1 &&& (2147483647 : Int32)))), .val (.int (p2 &&& (2147483647 : Int32))), .val (.int v35_8), .val (.int (p4 &&& (3 : Int32))), .val (.int (p4 >>> ((2 : Int32) &&& 31))), .val (.long v96_11), .second, .val (.long (((p0.toInt64) + (v96_11 * ((own_f1_0 (1 : Int32) (p1 &&& (2147483647 : Int32))).toInt64))) + (v35_8.toInt64))), .second, .unset, .unset, .unset, .unset] [(.int p0), (.ref b2), (.ref b2)])) t
            refine XS.iload X2.here hx rfl (hb hby at_136) rfl ?_
            show Steps p.tables e below (T2.setTop (mkF m 138 #[.val (.int p0), .val (.int p1), .val (.int p2), .val (.int p3), .val (.int p4), .val (.int p5), .val (.int (own_f1_0 (1 : Int32) (p1 &&& (2147483647 : Int32)))), .val (.int (p2 &&& (2147483647 : Int32))), .val (.int v35_8), .val (.int (p4 &&& (3 : Int32))), .val (.int (p4 >>> ((2 : Int32) &&& 31))), .val (.long v96_11), .second, .val (.long (((p0.toInt64) + (v96_11 * ((own_f1_0 (1 : Int32) (p1 &&& (2147483647 : Int32))).toInt64))) + (v35_8.toInt64))), .second, .unset, .unset, .unset, .unset] [(.int (own_f1_0 (1 : Int32) (p1 &&& (2147483647 : Int32)))), (.int p0), (.ref b2), (.ref b2)])) t
            refine XS.iload X2.here hx rfl (hb hby at_138) rfl ?_
            show Steps p.tables e below (T2.setTop (mkF m 140 #[.val (.int p0), .val (.int p1), .val (.int p2), .val (.int p3), .val (.int p4), .val (.int p5), .val (.int (own_f1_0 (1 : Int32) (p1 &&& (2147483647 : Int32)))), .val (.int (p2 &&& (2147483647 : Int32))), .val (.int v35_8), .val (.int (p4 &&& (3 : Int32))), .val (.int (p4 >>> ((2 : Int32) &&& 31))), .val (.long v96_11), .second, .val (.long (((p0.toInt64) + (v96_11 * ((own_f1_0 (1 : Int32) (p1 &&& (2147483647 : Int32))).toInt64))) + (v35_8.toInt64))), .second, .unset, .unset, .unset, .unset] [(.int (p2 &&& (2147483647 : Int32))), (.int (own_f1_0 (1 : Int32) (p1 &&& (2147483647 : Int32)))), (.int p0), (.ref b2), (.ref b2)])) t
            refine XS.iloadN X2.here hx rfl (hb hby at_140) rfl ?_
            show Steps p.tables e below (T2.setTop (mkF m 141 #[.val (.int p0), .val (.int p1), .val (.int p2), .val (.int p3), .val (.int p4), .val (.int p5), .val (.int (own_f1_0 (1 : Int32) (p1 &&& (2147483647 : Int32)))), .val (.int (p2 &&& (2147483647 : Int32))), .val (.int v35_8), .val (.int (p4 &&& (3 : Int32))), .val (.int (p4 >>> ((2 : Int32) &&& 31))), .val (.long v96_11), .second, .val (.long (((p0.toInt64) + (v96_11 * ((own_f1_0 (1 : Int32) (p1 &&& (2147483647 : Int32))).toInt64))) + (v35_8.toInt64))), .second, .unset, .unset, .unset, .unset] [(.int p3), (.int (p2 &&& (2147483647 : Int32))), (.int (own_f1_0 (1 : Int32) (p1 &&& (2147483647 : Int32)))), (.int p0), (.ref b2), (.ref b2)])) t
            refine st3.trans ?_
            show Steps p.tables e below (T3.setTop (mkF m 144 #[.val (.int p0), .val (.int p1), .val (.int p2), .val (.int p3), .val (.int p4), .val (.int p5), .val (.int (own_f1_0 (1 : Int32) (p1 &&& (2147483647 : Int32)))), .val (.int (p2 &&& (2147483647 : Int32))), .val (.int v35_8), .val (.int (p4 &&& (3 : Int32))), .val (.int (p4 >>> ((2 : Int32) &&& 31))), .val (.long v96_11), .second, .val (.long (((p0.toInt64) + (v96_11 * ((own_f1_0 (1 : Int32) (p1 &&& (2147483647 : Int32))).toInt64))) + (v35_8.toInt64))), .second, .unset, .unset, .unset, .unset] [(.ref b2)])) t
            refine XS.astore X3.here hx rfl (hb hby at_144) rfl rfl (l' := #[.val (.int p0), .val (.int p1), .val (.int p2), .val (.int p3), .val (.int p4), .val (.int p5), .val (.int (own_f1_0 (1 : Int32) (p1 &&& (2147483647 : Int32)))), .val (.int (p2 &&& (2147483647 : Int32))), .val (.int v35_8), .val (.int (p4 &&& (3 : Int32))), .val (.int (p4 >>> ((2 : Int32) &&& 31))), .val (.long v96_11), .second, .val (.long (((p0.toInt64) + (v96_11 * ((own_f1_0 (1 : Int32) (p1 &&& (2147483647 : Int32))).toInt64))) + (v35_8.toInt64))), .second, .val (.ref b2), .unset, .unset, .unset]) rfl ?_
            show Steps p.tables e below (T3.setTop (mkF m 146 #[.val (.int p0), .val (.int p1), .val (.int p2), .val (.int p3), .val (.int p4), .val (.int p5), .val (.int (own_f1_0 (1 : Int32) (p1 &&& (2147483647 : Int32)))), .val (.int (p2 &&& (2147483647 : Int32))), .val (.int v35_8), .val (.int (p4 &&& (3 : Int32))), .val (.int (p4 >>> ((2 : Int32) &&& 31))), .val (.long v96_11), .second, .val (.long (((p0.toInt64) + (v96_11 * ((own_f1_0 (1 : Int32) (p1 &&& (2147483647 : Int32))).toInt64))) + (v35_8.toInt64))), .second, .val (.ref b2), .unset, .unset, .unset] [])) t
            refine XS.aload X3.here hx rfl (hb hby at_146) rfl rfl ?_
            show Steps p.tables e below (T3.setTop (mkF m 148 #[.val (.int p0), .val (.int p1), .val (.int p2), .val (.int p3), .val (.int p4), .val (.int p5), .val (.int (own_f1_0 (1 : Int32) (p1 &&& (2147483647 : Int32)))), .val (.int (p2 &&& (2147483647 : Int32))), .val (.int v35_8), .val (.int (p4 &&& (3 : Int32))), .val (.int (p4 >>> ((2 : Int32) &&& 31))), .val (.long v96_11), .second, .val (.long (((p0.toInt64) + (v96_11 * ((own_f1_0 (1 : Int32) (p1 &&& (2147483647 : Int32))).toInt64))) + (v35_8.toInt64))), .second, .val (.ref b2), .unset, .unset, .unset] [(.ref b2)])) t
            refine XS.lload X3.here hx rfl (hb hby at_148) rfl ?_
            show Steps p.tables e below (T3.setTop (mkF m 150 #[.val (.int p0), .val (.int p1), .val (.int p2), .val (.int p3), .val (.int p4), .val (.int p5), .val (.int (own_f1_0 (1 : Int32) (p1 &&& (2147483647 : Int32)))), .val (.int (p2 &&& (2147483647 : Int32))), .val (.int v35_8), .val (.int (p4 &&& (3 : Int32))), .val (.int (p4 >>> ((2 : Int32) &&& 31))), .val (.long v96_11), .second, .val (.long (((p0.toInt64) + (v96_11 * ((own_f1_0 (1 : Int32) (p1 &&& (2147483647 : Int32))).toInt64))) + (v35_8.toInt64))), .second, .val (.ref b2), .unset, .unset, .unset] [(.long (((p0.toInt64) + (v96_11 * ((own_f1_0 (1 : Int32) (p1 &&& (2147483647 : Int32))).toInt64))) + (v35_8.toInt64))), (.ref b2)])) t
            refine XS.l2i X3.here hx rfl (hb hby at_150) rfl ?_
            show Steps p.tables e below (T3.setTop (mkF m 151 #[.val (.int p0), .val (.int p1), .val (.int p2), .val (.int p3), .val (.int p4), .val (.int p5), .val (.int (own_f1_0 (1 : Int32) (p1 &&& (2147483647 : Int32)))), .val (.int (p2 &&& (2147483647 : Int32))), .val (.int v35_8), .val (.int (p4 &&& (3 : Int32))), .val (.int (p4 >>> ((2 : Int32) &&& 31))), .val (.long v96_11), .second, .val (.long (((p0.toInt64) + (v96_11 * ((own_f1_0 (1 : Int32) (p1 &&& (2147483647 : Int32))).toInt64))) + (v35_8.toInt64))), .second, .val (.ref b2), .unset, .unset, .unset] [(.int ((((p0.toInt64) + (v96_11 * ((own_f1_0 (1 : Int32) (p1 &&& (2147483647 : Int32))).toInt64))) + (v35_8.toInt64)).toInt32)), (.ref b2)])) t
            refine st4.trans ?_
            show Steps p.tables e below (T4.setTop (mkF m 154 #[.val (.int p0), .val (.int p1), .val (.int p2), .val (.int p3), .val (.int p4), .val (.int p5), .val (.int (own_f1_0 (1 : Int32) (p1 &&& (2147483647 : Int32)))), .val (.int (p2 &&& (2147483647 : Int32))), .val (.int v35_8), .val (.int (p4 &&& (3 : Int32))), .val (.int (p4 >>> ((2 : Int32) &&& 31))), .val (.long v96_11), .second, .val (.long (((p0.toInt64) + (v96_11 * ((own_f1_0 (1 : Int32) (p1 &&& (2147483647 : Int32))).toInt64))) + (v35_8.toInt64))), .second, .val (.ref b2), .unset, .unset, .unset] [(.int (own_f5_0 ((((p0.toInt64) + (v96_11 * ((own_f1_0 (1 : Int32) (p1 &&& (2147483647 : Int32))).toInt64))) + (v35_8.toInt64)).toInt32) p0 (own_f1_0 (1 : Int32) (p1 &&& (2147483647 : Int32))) (p2 &&& (2147483647 : Int32)) p3))])) t
            refine XS.istore X4.here hx rfl (hb hby at_154) rfl (l' := #[.val (.int p0), .val (.int p1), .val (.int p2), .val (.int p3), .val (.int p4), .val (.int p5), .val (.int (own_f1_0 (1 : Int32) (p1 &&& (2147483647 : Int32)))), .val (.int (p2 &&& (2147483647 : Int32))), .val (.int v35_8), .val (.int (p4 &&& (3 : Int32))), .val (.int (p4 >>> ((2 : Int32) &&& 31))), .val (.long v96_11), .second, .val (.long (((p0.toInt64) + (v96_11 * ((own_f1_0 (1 : Int32) (p1 &&& (2147483647 : Int32))).toInt64))) + (v35_8.toInt64))), .second, .val (.ref b2), .val (.int (own_f5_0 ((((p0.toInt64) + (v96_11 * ((own_f1_0 (1 : Int32) (p1 &&& (2147483647 : Int32))).toInt64))) + (v35_8.toInt64)).toInt32) p0 (own_f1_0 (1 : Int32) (p1 &&& (2147483647 : Int32))) (p2 &&& (2147483647 : Int32)) p3)), .unset, .unset]) rfl ?_
            show Steps p.tables e below (T4.setTop (mkF m 156 #[.val (.int p0), .val (.int p1), .val (.int p2), .val (.int p3), .val (.int p4), .val (.int p5), .val (.int (own_f1_0 (1 : Int32) (p1 &&& (2147483647 : Int32)))), .val (.int (p2 &&& (2147483647 : Int32))), .val (.int v35_8), .val (.int (p4 &&& (3 : Int32))), .val (.int (p4 >>> ((2 : Int32) &&& 31))), .val (.long v96_11), .second, .val (.long (((p0.toInt64) + (v96_11 * ((own_f1_0 (1 : Int32) (p1 &&& (2147483647 : Int32))).toInt64))) + (v35_8.toInt64))), .second, .val (.ref b2), .val (.int (own_f5_0 ((((p0.toInt64) + (v96_11 * ((own_f1_0 (1 : Int32) (p1 &&& (2147483647 : Int32))).toInt64))) + (v35_8.toInt64)).toInt32) p0 (own_f1_0 (1 : Int32) (p1 &&& (2147483647 : Int32))) (p2 &&& (2147483647 : Int32)) p3)), .unset, .unset] [])) t
            refine XS.iload X4.here hx rfl (hb hby at_156) rfl ?_
            show Steps p.tables e below (T4.setTop (mkF m 158 #[.val (.int p0), .val (.int p1), .val (.int p2), .val (.int p3), .val (.int p4), .val (.int p5), .val (.int (own_f1_0 (1 : Int32) (p1 &&& (2147483647 : Int32)))), .val (.int (p2 &&& (2147483647 : Int32))), .val (.int v35_8), .val (.int (p4 &&& (3 : Int32))), .val (.int (p4 >>> ((2 : Int32) &&& 31))), .val (.long v96_11), .second, .val (.long (((p0.toInt64) + (v96_11 * ((own_f1_0 (1 : Int32) (p1 &&& (2147483647 : Int32))).toInt64))) + (v35_8.toInt64))), .second, .val (.ref b2), .val (.int (own_f5_0 ((((p0.toInt64) + (v96_11 * ((own_f1_0 (1 : Int32) (p1 &&& (2147483647 : Int32))).toInt64))) + (v35_8.toInt64)).toInt32) p0 (own_f1_0 (1 : Int32) (p1 &&& (2147483647 : Int32))) (p2 &&& (2147483647 : Int32)) p3)), .unset, .unset] [(.int v35_8)])) t
            exact k
          have j182 : ∀ (T : State) (Lc : List Loc) (X : Stand p l e room_1 s m #[(.int p0), (.int p1), (.int p2), (.int p3), (.int p4), (.int p5)] below meth c T Lc 1 4) (eT : T.heap = h3) (N : Fr n0 Lc) (t182_0 : Int32), Owe p e below s 16 128 (QL (.int (own_f0_182 p0 p1 p2 p3 t182_0 v96_11 v35_8)) n0) T (mkF m 182 #[.val (.int p0), .val (.int p1), .val (.int p2), .val (.int p3), .val (.int p4), .val (.int p5), .val (.int (own_f1_0 (1 : Int32) (p1 &&& (2147483647 : Int32)))), .val (.int (p2 &&& (2147483647 : Int32))), .val (.int v35_8), .val (.int (p4 &&& (3 : Int32))), .val (.int (p4 >>> ((2 : Int32) &&& 31))), .val (.long v96_11), .second, .val (.long (((p0.toInt64) + (v96_11 * ((own_f1_0 (1 : Int32) (p1 &&& (2147483647 : Int32))).toInt64))) + (v35_8.toInt64))), .second, .val (.ref b2), .val (.int (own_f5_0 ((((p0.toInt64) + (v96_11 * ((own_f1_0 (1 : Int32) (p1 &&& (2147483647 : Int32))).toInt64))) + (v35_8.toInt64)).toInt32) p0 (own_f1_0 (1 : Int32) (p1 &&& (2147483647 : Int32))) (p2 &&& (2147483647 : Int32)) p3)), .unset, .unset] [(.int t182_0)]) := by
            intro T182j Lc182j X182j e182j N182j t182_0
            refine Owe.step (T' := T182j) (g' := (mkF m 186 #[.val (.int p0), .val (.int p1), .val (.int p2), .val (.int p3), .val (.int p4), .val (.int p5), .val (.int (own_f1_0 (1 : Int32) (p1 &&& (2147483647 : Int32)))), .val (.int (p2 &&& (2147483647 : Int32))), .val (.int v35_8), .val (.int (p4 &&& (3 : Int32))), .val (.int (p4 >>> ((2 : Int32) &&& 31))), .val (.long v96_11), .second, .val (.long (((p0.toInt64) + (v96_11 * ((own_f1_0 (1 : Int32) (p1 &&& (2147483647 : Int32))).toInt64))) + (v35_8.toInt64))), .second, .val (.ref b2), .val (.int (own_f5_0 ((((p0.toInt64) + (v96_11 * ((own_f1_0 (1 : Int32) (p1 &&& (2147483647 : Int32))).toInt64))) + (v35_8.toInt64)).toInt32) p0 (own_f1_0 (1 : Int32) (p1 &&& (2147483647 : Int32))) (p2 &&& (2147483647 : Int32)) p3)), .val (.int t182_0), .unset] [(.int t182_0)])) (fun t k => ?_) ?_
            · show Steps p.tables e below (T182j.setTop (mkF m 182 #[.val (.int p0), .val (.int p1), .val (.int p2), .val (.int p3), .val (.int p4), .val (.int p5), .val (.int (own_f1_0 (1 : Int32) (p1 &&& (2147483647 : Int32)))), .val (.int (p2 &&& (2147483647 : Int32))), .val (.int v35_8), .val (.int (p4 &&& (3 : Int32))), .val (.int (p4 >>> ((2 : Int32) &&& 31))), .val (.long v96_11), .second, .val (.long (((p0.toInt64) + (v96_11 * ((own_f1_0 (1 : Int32) (p1 &&& (2147483647 : Int32))).toInt64))) + (v35_8.toInt64))), .second, .val (.ref b2), .val (.int (own_f5_0 ((((p0.toInt64) + (v96_11 * ((own_f1_0 (1 : Int32) (p1 &&& (2147483647 : Int32))).toInt64))) + (v35_8.toInt64)).toInt32) p0 (own_f1_0 (1 : Int32) (p1 &&& (2147483647 : Int32))) (p2 &&& (2147483647 : Int32)) p3)), .unset, .unset] [(.int t182_0)])) t
              refine XS.istore X182j.here hx rfl (hb hby at_182) rfl (l' := #[.val (.int p0), .val (.int p1), .val (.int p2), .val (.int p3), .val (.int p4), .val (.int p5), .val (.int (own_f1_0 (1 : Int32) (p1 &&& (2147483647 : Int32)))), .val (.int (p2 &&& (2147483647 : Int32))), .val (.int v35_8), .val (.int (p4 &&& (3 : Int32))), .val (.int (p4 >>> ((2 : Int32) &&& 31))), .val (.long v96_11), .second, .val (.long (((p0.toInt64) + (v96_11 * ((own_f1_0 (1 : Int32) (p1 &&& (2147483647 : Int32))).toInt64))) + (v35_8.toInt64))), .second, .val (.ref b2), .val (.int (own_f5_0 ((((p0.toInt64) + (v96_11 * ((own_f1_0 (1 : Int32) (p1 &&& (2147483647 : Int32))).toInt64))) + (v35_8.toInt64)).toInt32) p0 (own_f1_0 (1 : Int32) (p1 &&& (2147483647 : Int32))) (p2 &&& (2147483647 : Int32)) p3)), .val (.int t182_0), .unset]) rfl ?_
              show Steps p.tables e below (T182j.setTop (mkF m 184 #[.val (.int p0), .val (.int p1), .val (.int p2), .val (.int p3), .val (.int p4), .val (.int p5), .val (.int (own_f1_0 (1 : Int32) (p1 &&& (2147483647 : Int32)))), .val (.int (p2 &&& (2147483647 : Int32))), .val (.int v35_8), .val (.int (p4 &&& (3 : Int32))), .val (.int (p4 >>> ((2 : Int32) &&& 31))), .val (.long v96_11), .second, .val (.long (((p0.toInt64) + (v96_11 * ((own_f1_0 (1 : Int32) (p1 &&& (2147483647 : Int32))).toInt64))) + (v35_8.toInt64))), .second, .val (.ref b2), .val (.int (own_f5_0 ((((p0.toInt64) + (v96_11 * ((own_f1_0 (1 : Int32) (p1 &&& (2147483647 : Int32))).toInt64))) + (v35_8.toInt64)).toInt32) p0 (own_f1_0 (1 : Int32) (p1 &&& (2147483647 : Int32))) (p2 &&& (2147483647 : Int32)) p3)), .val (.int t182_0), .unset] [])) t
              refine XS.iload X182j.here hx rfl (hb hby at_184) rfl ?_
              show Steps p.tables e below (T182j.setTop (mkF m 186 #[.val (.int p0), .val (.int p1), .val (.int p2), .val (.int p3), .val (.int p4), .val (.int p5), .val (.int (own_f1_0 (1 : Int32) (p1 &&& (2147483647 : Int32)))), .val (.int (p2 &&& (2147483647 : Int32))), .val (.int v35_8), .val (.int (p4 &&& (3 : Int32))), .val (.int (p4 >>> ((2 : Int32) &&& 31))), .val (.long v96_11), .second, .val (.long (((p0.toInt64) + (v96_11 * ((own_f1_0 (1 : Int32) (p1 &&& (2147483647 : Int32))).toInt64))) + (v35_8.toInt64))), .second, .val (.ref b2), .val (.int (own_f5_0 ((((p0.toInt64) + (v96_11 * ((own_f1_0 (1 : Int32) (p1 &&& (2147483647 : Int32))).toInt64))) + (v35_8.toInt64)).toInt32) p0 (own_f1_0 (1 : Int32) (p1 &&& (2147483647 : Int32))) (p2 &&& (2147483647 : Int32)) p3)), .val (.int t182_0), .unset] [(.int t182_0)])) t
              exact k
            have j198 : ∀ (T : State) (Lc : List Loc) (X : Stand p l e room_1 s m #[(.int p0), (.int p1), (.int p2), (.int p3), (.int p4), (.int p5)] below meth c T Lc 1 4) (eT : T.heap = h3) (N : Fr n0 Lc) (t198_0 : Int32), Owe p e below s 16 128 (QL (.int (own_f0_198 p0 p1 p2 p3 t198_0 v96_11 v35_8)) n0) T (mkF m 198 #[.val (.int p0), .val (.int p1), .val (.int p2), .val (.int p3), .val (.int p4), .val (.int p5), .val (.int (own_f1_0 (1 : Int32) (p1 &&& (2147483647 : Int32)))), .val (.int (p2 &&& (2147483647 : Int32))), .val (.int v35_8), .val (.int (p4 &&& (3 : Int32))), .val (.int (p4 >>> ((2 : Int32) &&& 31))), .val (.long v96_11), .second, .val (.long (((p0.toInt64) + (v96_11 * ((own_f1_0 (1 : Int32) (p1 &&& (2147483647 : Int32))).toInt64))) + (v35_8.toInt64))), .second, .val (.ref b2), .val (.int (own_f5_0 ((((p0.toInt64) + (v96_11 * ((own_f1_0 (1 : Int32) (p1 &&& (2147483647 : Int32))).toInt64))) + (v35_8.toInt64)).toInt32) p0 (own_f1_0 (1 : Int32) (p1 &&& (2147483647 : Int32))) (p2 &&& (2147483647 : Int32)) p3)), .val (.int t182_0), .unset] [(.int t198_0)]) := by
              intro T198j Lc198j X198j e198j N198j t198_0
              refine Owe.step (T' := T198j) (g' := (mkF m 204 #[.val (.int p0), .val (.int p1), .val (.int p2), .val (.int p3), .val (.int p4), .val (.int p5), .val (.int (own_f1_0 (1 : Int32) (p1 &&& (2147483647 : Int32)))), .val (.int (p2 &&& (2147483647 : Int32))), .val (.int v35_8), .val (.int (p4 &&& (3 : Int32))), .val (.int (p4 >>> ((2 : Int32) &&& 31))), .val (.long v96_11), .second, .val (.long (((p0.toInt64) + (v96_11 * ((own_f1_0 (1 : Int32) (p1 &&& (2147483647 : Int32))).toInt64))) + (v35_8.toInt64))), .second, .val (.ref b2), .val (.int (own_f5_0 ((((p0.toInt64) + (v96_11 * ((own_f1_0 (1 : Int32) (p1 &&& (2147483647 : Int32))).toInt64))) + (v35_8.toInt64)).toInt32) p0 (own_f1_0 (1 : Int32) (p1 &&& (2147483647 : Int32))) (p2 &&& (2147483647 : Int32)) p3)), .val (.int t182_0), .val (.int t198_0)] [(.int t198_0), (.int (own_f5_0 ((((p0.toInt64) + (v96_11 * ((own_f1_0 (1 : Int32) (p1 &&& (2147483647 : Int32))).toInt64))) + (v35_8.toInt64)).toInt32) p0 (own_f1_0 (1 : Int32) (p1 &&& (2147483647 : Int32))) (p2 &&& (2147483647 : Int32)) p3))])) (fun t k => ?_) ?_
              · show Steps p.tables e below (T198j.setTop (mkF m 198 #[.val (.int p0), .val (.int p1), .val (.int p2), .val (.int p3), .val (.int p4), .val (.int p5), .val (.int (own_f1_0 (1 : Int32) (p1 &&& (2147483647 : Int32)))), .val (.int (p2 &&& (2147483647 : Int32))), .val (.int v35_8), .val (.int (p4 &&& (3 : Int32))), .val (.int (p4 >>> ((2 : Int32) &&& 31))), .val (.long v96_11), .second, .val (.long (((p0.toInt64) + (v96_11 * ((own_f1_0 (1 : Int32) (p1 &&& (2147483647 : Int32))).toInt64))) + (v35_8.toInt64))), .second, .val (.ref b2), .val (.int (own_f5_0 ((((p0.toInt64) + (v96_11 * ((own_f1_0 (1 : Int32) (p1 &&& (2147483647 : Int32))).toInt64))) + (v35_8.toInt64)).toInt32) p0 (own_f1_0 (1 : Int32) (p1 &&& (2147483647 : Int32))) (p2 &&& (2147483647 : Int32)) p3)), .val (.int t182_0), .unset] [(.int t198_0)])) t
                refine XS.istore X198j.here hx rfl (hb hby at_198) rfl (l' := #[.val (.int p0), .val (.int p1), .val (.int p2), .val (.int p3), .val (.int p4), .val (.int p5), .val (.int (own_f1_0 (1 : Int32) (p1 &&& (2147483647 : Int32)))), .val (.int (p2 &&& (2147483647 : Int32))), .val (.int v35_8), .val (.int (p4 &&& (3 : Int32))), .val (.int (p4 >>> ((2 : Int32) &&& 31))), .val (.long v96_11), .second, .val (.long (((p0.toInt64) + (v96_11 * ((own_f1_0 (1 : Int32) (p1 &&& (2147483647 : Int32))).toInt64))) + (v35_8.toInt64))), .second, .val (.ref b2), .val (.int (own_f5_0 ((((p0.toInt64) + (v96_11 * ((own_f1_0 (1 : Int32) (p1 &&& (2147483647 : Int32))).toInt64))) + (v35_8.toInt64)).toInt32) p0 (own_f1_0 (1 : Int32) (p1 &&& (2147483647 : Int32))) (p2 &&& (2147483647 : Int32)) p3)), .val (.int t182_0), .val (.int t198_0)]) rfl ?_
                show Steps p.tables e below (T198j.setTop (mkF m 200 #[.val (.int p0), .val (.int p1), .val (.int p2), .val (.int p3), .val (.int p4), .val (.int p5), .val (.int (own_f1_0 (1 : Int32) (p1 &&& (2147483647 : Int32)))), .val (.int (p2 &&& (2147483647 : Int32))), .val (.int v35_8), .val (.int (p4 &&& (3 : Int32))), .val (.int (p4 >>> ((2 : Int32) &&& 31))), .val (.long v96_11), .second, .val (.long (((p0.toInt64) + (v96_11 * ((own_f1_0 (1 : Int32) (p1 &&& (2147483647 : Int32))).toInt64))) + (v35_8.toInt64))), .second, .val (.ref b2), .val (.int (own_f5_0 ((((p0.toInt64) + (v96_11 * ((own_f1_0 (1 : Int32) (p1 &&& (2147483647 : Int32))).toInt64))) + (v35_8.toInt64)).toInt32) p0 (own_f1_0 (1 : Int32) (p1 &&& (2147483647 : Int32))) (p2 &&& (2147483647 : Int32)) p3)), .val (.int t182_0), .val (.int t198_0)] [])) t
                refine XS.iload X198j.here hx rfl (hb hby at_200) rfl ?_
                show Steps p.tables e below (T198j.setTop (mkF m 202 #[.val (.int p0), .val (.int p1), .val (.int p2), .val (.int p3), .val (.int p4), .val (.int p5), .val (.int (own_f1_0 (1 : Int32) (p1 &&& (2147483647 : Int32)))), .val (.int (p2 &&& (2147483647 : Int32))), .val (.int v35_8), .val (.int (p4 &&& (3 : Int32))), .val (.int (p4 >>> ((2 : Int32) &&& 31))), .val (.long v96_11), .second, .val (.long (((p0.toInt64) + (v96_11 * ((own_f1_0 (1 : Int32) (p1 &&& (2147483647 : Int32))).toInt64))) + (v35_8.toInt64))), .second, .val (.ref b2), .val (.int (own_f5_0 ((((p0.toInt64) + (v96_11 * ((own_f1_0 (1 : Int32) (p1 &&& (2147483647 : Int32))).toInt64))) + (v35_8.toInt64)).toInt32) p0 (own_f1_0 (1 : Int32) (p1 &&& (2147483647 : Int32))) (p2 &&& (2147483647 : Int32)) p3)), .val (.int t182_0), .val (.int t198_0)] [(.int (own_f5_0 ((((p0.toInt64) + (v96_11 * ((own_f1_0 (1 : Int32) (p1 &&& (2147483647 : Int32))).toInt64))) + (v35_8.toInt64)).toInt32) p0 (own_f1_0 (1 : Int32) (p1 &&& (2147483647 : Int32))) (p2 &&& (2147483647 : Int32)) p3))])) t
                refine XS.iload X198j.here hx rfl (hb hby at_202) rfl ?_
                show Steps p.tables e below (T198j.setTop (mkF m 204 #[.val (.int p0), .val (.int p1), .val (.int p2), .val (.int p3), .val (.int p4), .val (.int p5), .val (.int (own_f1_0 (1 : Int32) (p1 &&& (2147483647 : Int32)))), .val (.int (p2 &&& (2147483647 : Int32))), .val (.int v35_8), .val (.int (p4 &&& (3 : Int32))), .val (.int (p4 >>> ((2 : Int32) &&& 31))), .val (.long v96_11), .second, .val (.long (((p0.toInt64) + (v96_11 * ((own_f1_0 (1 : Int32) (p1 &&& (2147483647 : Int32))).toInt64))) + (v35_8.toInt64))), .second, .val (.ref b2), .val (.int (own_f5_0 ((((p0.toInt64) + (v96_11 * ((own_f1_0 (1 : Int32) (p1 &&& (2147483647 : Int32))).toInt64))) + (v35_8.toInt64)).toInt32) p0 (own_f1_0 (1 : Int32) (p1 &&& (2147483647 : Int32))) (p2 &&& (2147483647 : Int32)) p3)), .val (.int t182_0), .val (.int t198_0)] [(.int t198_0), (.int (own_f5_0 ((((p0.toInt64) + (v96_11 * ((own_f1_0 (1 : Int32) (p1 &&& (2147483647 : Int32))).toInt64))) + (v35_8.toInt64)).toInt32) p0 (own_f1_0 (1 : Int32) (p1 &&& (2147483647 : Int32))) (p2 &&& (2147483647 : Int32)) p3))])) t
                exact k
              by_cases hc204 : (own_f5_0 ((((p0.toInt64) + (v96_11 * ((own_f1_0 (1 : Int32) (p1 &&& (2147483647 : Int32))).toInt64))) + (v35_8.toInt64)).toInt32) p0 (own_f1_0 (1 : Int32) (p1 &&& (2147483647 : Int32))) (p2 &&& (2147483647 : Int32)) p3) = t198_0
              · refine Owe.step (T' := T198j) (g' := (mkF m 207 #[.val (.int p0), .val (.int p1), .val (.int p2), .val (.int p3), .val (.int p4), .val (.int p5), .val (.int (own_f1_0 (1 : Int32) (p1 &&& (2147483647 : Int32)))), .val (.int (p2 &&& (2147483647 : Int32))), .val (.int v35_8), .val (.int (p4 &&& (3 : Int32))), .val (.int (p4 >>> ((2 : Int32) &&& 31))), .val (.long v96_11), .second, .val (.long (((p0.toInt64) + (v96_11 * ((own_f1_0 (1 : Int32) (p1 &&& (2147483647 : Int32))).toInt64))) + (v35_8.toInt64))), .second, .val (.ref b2), .val (.int (own_f5_0 ((((p0.toInt64) + (v96_11 * ((own_f1_0 (1 : Int32) (p1 &&& (2147483647 : Int32))).toInt64))) + (v35_8.toInt64)).toInt32) p0 (own_f1_0 (1 : Int32) (p1 &&& (2147483647 : Int32))) (p2 &&& (2147483647 : Int32)) p3)), .val (.int t182_0), .val (.int t198_0)] [])) (fun t k => ?_) ?_
                · show Steps p.tables e below (T198j.setTop (mkF m 204 #[.val (.int p0), .val (.int p1), .val (.int p2), .val (.int p3), .val (.int p4), .val (.int p5), .val (.int (own_f1_0 (1 : Int32) (p1 &&& (2147483647 : Int32)))), .val (.int (p2 &&& (2147483647 : Int32))), .val (.int v35_8), .val (.int (p4 &&& (3 : Int32))), .val (.int (p4 >>> ((2 : Int32) &&& 31))), .val (.long v96_11), .second, .val (.long (((p0.toInt64) + (v96_11 * ((own_f1_0 (1 : Int32) (p1 &&& (2147483647 : Int32))).toInt64))) + (v35_8.toInt64))), .second, .val (.ref b2), .val (.int (own_f5_0 ((((p0.toInt64) + (v96_11 * ((own_f1_0 (1 : Int32) (p1 &&& (2147483647 : Int32))).toInt64))) + (v35_8.toInt64)).toInt32) p0 (own_f1_0 (1 : Int32) (p1 &&& (2147483647 : Int32))) (p2 &&& (2147483647 : Int32)) p3)), .val (.int t182_0), .val (.int t198_0)] [(.int t198_0), (.int (own_f5_0 ((((p0.toInt64) + (v96_11 * ((own_f1_0 (1 : Int32) (p1 &&& (2147483647 : Int32))).toInt64))) + (v35_8.toInt64)).toInt32) p0 (own_f1_0 (1 : Int32) (p1 &&& (2147483647 : Int32))) (p2 &&& (2147483647 : Int32)) p3))])) t
                  refine XS.icmpNo X198j.here hx rfl (hb hby at_204) rfl (teq hc204).2 ?_
                  show Steps p.tables e below (T198j.setTop (mkF m 207 #[.val (.int p0), .val (.int p1), .val (.int p2), .val (.int p3), .val (.int p4), .val (.int p5), .val (.int (own_f1_0 (1 : Int32) (p1 &&& (2147483647 : Int32)))), .val (.int (p2 &&& (2147483647 : Int32))), .val (.int v35_8), .val (.int (p4 &&& (3 : Int32))), .val (.int (p4 >>> ((2 : Int32) &&& 31))), .val (.long v96_11), .second, .val (.long (((p0.toInt64) + (v96_11 * ((own_f1_0 (1 : Int32) (p1 &&& (2147483647 : Int32))).toInt64))) + (v35_8.toInt64))), .second, .val (.ref b2), .val (.int (own_f5_0 ((((p0.toInt64) + (v96_11 * ((own_f1_0 (1 : Int32) (p1 &&& (2147483647 : Int32))).toInt64))) + (v35_8.toInt64)).toInt32) p0 (own_f1_0 (1 : Int32) (p1 &&& (2147483647 : Int32))) (p2 &&& (2147483647 : Int32)) p3)), .val (.int t182_0), .val (.int t198_0)] [])) t
                  exact k
                rw [show own_f0_198 p0 p1 p2 p3 t198_0 v96_11 v35_8 = (1 : Int32) from (by rw [own_f0_198, if_pos hc204])]
                refine Owe.ret X198j Bd.notSynchronized (v := (some (.int (1 : Int32)))) (fun h => by rw [Bd.returns] at h; cases h) (fun fs hr => ?_) ⟨rfl, N198j⟩ (by decide) (by decide)
                show Steps p.tables e below (T198j.setTop (mkF m 207 #[.val (.int p0), .val (.int p1), .val (.int p2), .val (.int p3), .val (.int p4), .val (.int p5), .val (.int (own_f1_0 (1 : Int32) (p1 &&& (2147483647 : Int32)))), .val (.int (p2 &&& (2147483647 : Int32))), .val (.int v35_8), .val (.int (p4 &&& (3 : Int32))), .val (.int (p4 >>> ((2 : Int32) &&& 31))), .val (.long v96_11), .second, .val (.long (((p0.toInt64) + (v96_11 * ((own_f1_0 (1 : Int32) (p1 &&& (2147483647 : Int32))).toInt64))) + (v35_8.toInt64))), .second, .val (.ref b2), .val (.int (own_f5_0 ((((p0.toInt64) + (v96_11 * ((own_f1_0 (1 : Int32) (p1 &&& (2147483647 : Int32))).toInt64))) + (v35_8.toInt64)).toInt32) p0 (own_f1_0 (1 : Int32) (p1 &&& (2147483647 : Int32))) (p2 &&& (2147483647 : Int32)) p3)), .val (.int t182_0), .val (.int t198_0)] [])) _
                refine XS.iconst X198j.here hx rfl (hb hby at_207) ?_
                show Steps p.tables e below (T198j.setTop (mkF m 208 #[.val (.int p0), .val (.int p1), .val (.int p2), .val (.int p3), .val (.int p4), .val (.int p5), .val (.int (own_f1_0 (1 : Int32) (p1 &&& (2147483647 : Int32)))), .val (.int (p2 &&& (2147483647 : Int32))), .val (.int v35_8), .val (.int (p4 &&& (3 : Int32))), .val (.int (p4 >>> ((2 : Int32) &&& 31))), .val (.long v96_11), .second, .val (.long (((p0.toInt64) + (v96_11 * ((own_f1_0 (1 : Int32) (p1 &&& (2147483647 : Int32))).toInt64))) + (v35_8.toInt64))), .second, .val (.ref b2), .val (.int (own_f5_0 ((((p0.toInt64) + (v96_11 * ((own_f1_0 (1 : Int32) (p1 &&& (2147483647 : Int32))).toInt64))) + (v35_8.toInt64)).toInt32) p0 (own_f1_0 (1 : Int32) (p1 &&& (2147483647 : Int32))) (p2 &&& (2147483647 : Int32)) p3)), .val (.int t182_0), .val (.int t198_0)] [(.int (1 : Int32))])) _
                refine XS.goto X198j.here hx rfl (pc0 := 208) (pc' := 212) rfl (hb hby at_208) (by decide) (by decide) ?_
                show Steps p.tables e below (T198j.setTop (mkF m 212 #[.val (.int p0), .val (.int p1), .val (.int p2), .val (.int p3), .val (.int p4), .val (.int p5), .val (.int (own_f1_0 (1 : Int32) (p1 &&& (2147483647 : Int32)))), .val (.int (p2 &&& (2147483647 : Int32))), .val (.int v35_8), .val (.int (p4 &&& (3 : Int32))), .val (.int (p4 >>> ((2 : Int32) &&& 31))), .val (.long v96_11), .second, .val (.long (((p0.toInt64) + (v96_11 * ((own_f1_0 (1 : Int32) (p1 &&& (2147483647 : Int32))).toInt64))) + (v35_8.toInt64))), .second, .val (.ref b2), .val (.int (own_f5_0 ((((p0.toInt64) + (v96_11 * ((own_f1_0 (1 : Int32) (p1 &&& (2147483647 : Int32))).toInt64))) + (v35_8.toInt64)).toInt32) p0 (own_f1_0 (1 : Int32) (p1 &&& (2147483647 : Int32))) (p2 &&& (2147483647 : Int32)) p3)), .val (.int t182_0), .val (.int t198_0)] [(.int (1 : Int32))])) _
                exact retN X198j hx (t := .boolean) Bd.returns (by simp) (hb hby at_212) hr
              · refine Owe.step (T' := T198j) (g' := (mkF m 211 #[.val (.int p0), .val (.int p1), .val (.int p2), .val (.int p3), .val (.int p4), .val (.int p5), .val (.int (own_f1_0 (1 : Int32) (p1 &&& (2147483647 : Int32)))), .val (.int (p2 &&& (2147483647 : Int32))), .val (.int v35_8), .val (.int (p4 &&& (3 : Int32))), .val (.int (p4 >>> ((2 : Int32) &&& 31))), .val (.long v96_11), .second, .val (.long (((p0.toInt64) + (v96_11 * ((own_f1_0 (1 : Int32) (p1 &&& (2147483647 : Int32))).toInt64))) + (v35_8.toInt64))), .second, .val (.ref b2), .val (.int (own_f5_0 ((((p0.toInt64) + (v96_11 * ((own_f1_0 (1 : Int32) (p1 &&& (2147483647 : Int32))).toInt64))) + (v35_8.toInt64)).toInt32) p0 (own_f1_0 (1 : Int32) (p1 &&& (2147483647 : Int32))) (p2 &&& (2147483647 : Int32)) p3)), .val (.int t182_0), .val (.int t198_0)] [])) (fun t k => ?_) ?_
                · show Steps p.tables e below (T198j.setTop (mkF m 204 #[.val (.int p0), .val (.int p1), .val (.int p2), .val (.int p3), .val (.int p4), .val (.int p5), .val (.int (own_f1_0 (1 : Int32) (p1 &&& (2147483647 : Int32)))), .val (.int (p2 &&& (2147483647 : Int32))), .val (.int v35_8), .val (.int (p4 &&& (3 : Int32))), .val (.int (p4 >>> ((2 : Int32) &&& 31))), .val (.long v96_11), .second, .val (.long (((p0.toInt64) + (v96_11 * ((own_f1_0 (1 : Int32) (p1 &&& (2147483647 : Int32))).toInt64))) + (v35_8.toInt64))), .second, .val (.ref b2), .val (.int (own_f5_0 ((((p0.toInt64) + (v96_11 * ((own_f1_0 (1 : Int32) (p1 &&& (2147483647 : Int32))).toInt64))) + (v35_8.toInt64)).toInt32) p0 (own_f1_0 (1 : Int32) (p1 &&& (2147483647 : Int32))) (p2 &&& (2147483647 : Int32)) p3)), .val (.int t182_0), .val (.int t198_0)] [(.int t198_0), (.int (own_f5_0 ((((p0.toInt64) + (v96_11 * ((own_f1_0 (1 : Int32) (p1 &&& (2147483647 : Int32))).toInt64))) + (v35_8.toInt64)).toInt32) p0 (own_f1_0 (1 : Int32) (p1 &&& (2147483647 : Int32))) (p2 &&& (2147483647 : Int32)) p3))])) t
                  refine XS.icmpYes X198j.here hx rfl (pc0 := 204) (pc' := 211) rfl (hb hby at_204) rfl (feq hc204).2 (by decide) (by decide) ?_
                  show Steps p.tables e below (T198j.setTop (mkF m 211 #[.val (.int p0), .val (.int p1), .val (.int p2), .val (.int p3), .val (.int p4), .val (.int p5), .val (.int (own_f1_0 (1 : Int32) (p1 &&& (2147483647 : Int32)))), .val (.int (p2 &&& (2147483647 : Int32))), .val (.int v35_8), .val (.int (p4 &&& (3 : Int32))), .val (.int (p4 >>> ((2 : Int32) &&& 31))), .val (.long v96_11), .second, .val (.long (((p0.toInt64) + (v96_11 * ((own_f1_0 (1 : Int32) (p1 &&& (2147483647 : Int32))).toInt64))) + (v35_8.toInt64))), .second, .val (.ref b2), .val (.int (own_f5_0 ((((p0.toInt64) + (v96_11 * ((own_f1_0 (1 : Int32) (p1 &&& (2147483647 : Int32))).toInt64))) + (v35_8.toInt64)).toInt32) p0 (own_f1_0 (1 : Int32) (p1 &&& (2147483647 : Int32))) (p2 &&& (2147483647 : Int32)) p3)), .val (.int t182_0), .val (.int t198_0)] [])) t
                  exact k
                rw [show own_f0_198 p0 p1 p2 p3 t198_0 v96_11 v35_8 = (0 : Int32) from (by rw [own_f0_198, if_neg hc204])]
                refine Owe.ret X198j Bd.notSynchronized (v := (some (.int (0 : Int32)))) (fun h => by rw [Bd.returns] at h; cases h) (fun fs hr => ?_) ⟨rfl, N198j⟩ (by decide) (by decide)
                show Steps p.tables e below (T198j.setTop (mkF m 211 #[.val (.int p0), .val (.int p1), .val (.int p2), .val (.int p3), .val (.int p4), .val (.int p5), .val (.int (own_f1_0 (1 : Int32) (p1 &&& (2147483647 : Int32)))), .val (.int (p2 &&& (2147483647 : Int32))), .val (.int v35_8), .val (.int (p4 &&& (3 : Int32))), .val (.int (p4 >>> ((2 : Int32) &&& 31))), .val (.long v96_11), .second, .val (.long (((p0.toInt64) + (v96_11 * ((own_f1_0 (1 : Int32) (p1 &&& (2147483647 : Int32))).toInt64))) + (v35_8.toInt64))), .second, .val (.ref b2), .val (.int (own_f5_0 ((((p0.toInt64) + (v96_11 * ((own_f1_0 (1 : Int32) (p1 &&& (2147483647 : Int32))).toInt64))) + (v35_8.toInt64)).toInt32) p0 (own_f1_0 (1 : Int32) (p1 &&& (2147483647 : Int32))) (p2 &&& (2147483647 : Int32)) p3)), .val (.int t182_0), .val (.int t198_0)] [])) _
                refine XS.iconst X198j.here hx rfl (hb hby at_211) ?_
                show Steps p.tables e below (T198j.setTop (mkF m 212 #[.val (.int p0), .val (.int p1), .val (.int p2), .val (.int p3), .val (.int p4), .val (.int p5), .val (.int (own_f1_0 (1 : Int32) (p1 &&& (2147483647 : Int32)))), .val (.int (p2 &&& (2147483647 : Int32))), .val (.int v35_8), .val (.int (p4 &&& (3 : Int32))), .val (.int (p4 >>> ((2 : Int32) &&& 31))), .val (.long v96_11), .second, .val (.long (((p0.toInt64) + (v96_11 * ((own_f1_0 (1 : Int32) (p1 &&& (2147483647 : Int32))).toInt64))) + (v35_8.toInt64))), .second, .val (.ref b2), .val (.int (own_f5_0 ((((p0.toInt64) + (v96_11 * ((own_f1_0 (1 : Int32) (p1 &&& (2147483647 : Int32))).toInt64))) + (v35_8.toInt64)).toInt32) p0 (own_f1_0 (1 : Int32) (p1 &&& (2147483647 : Int32))) (p2 &&& (2147483647 : Int32)) p3)), .val (.int t182_0), .val (.int t198_0)] [(.int (0 : Int32))])) _
                exact retN X198j hx (t := .boolean) Bd.returns (by simp) (hb hby at_212) hr
            by_cases hc186 : t182_0 = (0 : Int32)
            · refine Owe.step (T' := T182j) (g' := (mkF m 197 #[.val (.int p0), .val (.int p1), .val (.int p2), .val (.int p3), .val (.int p4), .val (.int p5), .val (.int (own_f1_0 (1 : Int32) (p1 &&& (2147483647 : Int32)))), .val (.int (p2 &&& (2147483647 : Int32))), .val (.int v35_8), .val (.int (p4 &&& (3 : Int32))), .val (.int (p4 >>> ((2 : Int32) &&& 31))), .val (.long v96_11), .second, .val (.long (((p0.toInt64) + (v96_11 * ((own_f1_0 (1 : Int32) (p1 &&& (2147483647 : Int32))).toInt64))) + (v35_8.toInt64))), .second, .val (.ref b2), .val (.int (own_f5_0 ((((p0.toInt64) + (v96_11 * ((own_f1_0 (1 : Int32) (p1 &&& (2147483647 : Int32))).toInt64))) + (v35_8.toInt64)).toInt32) p0 (own_f1_0 (1 : Int32) (p1 &&& (2147483647 : Int32))) (p2 &&& (2147483647 : Int32)) p3)), .val (.int t182_0), .unset] [])) (fun t k => ?_) ?_
              · show Steps p.tables e below (T182j.setTop (mkF m 186 #[.val (.int p0), .val (.int p1), .val (.int p2), .val (.int p3), .val (.int p4), .val (.int p5), .val (.int (own_f1_0 (1 : Int32) (p1 &&& (2147483647 : Int32)))), .val (.int (p2 &&& (2147483647 : Int32))), .val (.int v35_8), .val (.int (p4 &&& (3 : Int32))), .val (.int (p4 >>> ((2 : Int32) &&& 31))), .val (.long v96_11), .second, .val (.long (((p0.toInt64) + (v96_11 * ((own_f1_0 (1 : Int32) (p1 &&& (2147483647 : Int32))).toInt64))) + (v35_8.toInt64))), .second, .val (.ref b2), .val (.int (own_f5_0 ((((p0.toInt64) + (v96_11 * ((own_f1_0 (1 : Int32) (p1 &&& (2147483647 : Int32))).toInt64))) + (v35_8.toInt64)).toInt32) p0 (own_f1_0 (1 : Int32) (p1 &&& (2147483647 : Int32))) (p2 &&& (2147483647 : Int32)) p3)), .val (.int t182_0), .unset] [(.int t182_0)])) t
                refine XS.ifYes X182j.here hx rfl (pc0 := 186) (pc' := 197) rfl (hb hby at_186) rfl ((if0 _ _).trans (teq hc186).1) (by decide) (by decide) ?_
                show Steps p.tables e below (T182j.setTop (mkF m 197 #[.val (.int p0), .val (.int p1), .val (.int p2), .val (.int p3), .val (.int p4), .val (.int p5), .val (.int (own_f1_0 (1 : Int32) (p1 &&& (2147483647 : Int32)))), .val (.int (p2 &&& (2147483647 : Int32))), .val (.int v35_8), .val (.int (p4 &&& (3 : Int32))), .val (.int (p4 >>> ((2 : Int32) &&& 31))), .val (.long v96_11), .second, .val (.long (((p0.toInt64) + (v96_11 * ((own_f1_0 (1 : Int32) (p1 &&& (2147483647 : Int32))).toInt64))) + (v35_8.toInt64))), .second, .val (.ref b2), .val (.int (own_f5_0 ((((p0.toInt64) + (v96_11 * ((own_f1_0 (1 : Int32) (p1 &&& (2147483647 : Int32))).toInt64))) + (v35_8.toInt64)).toInt32) p0 (own_f1_0 (1 : Int32) (p1 &&& (2147483647 : Int32))) (p2 &&& (2147483647 : Int32)) p3)), .val (.int t182_0), .unset] [])) t
                exact k
              refine Owe.step (T' := T182j) (g' := (mkF m 198 #[.val (.int p0), .val (.int p1), .val (.int p2), .val (.int p3), .val (.int p4), .val (.int p5), .val (.int (own_f1_0 (1 : Int32) (p1 &&& (2147483647 : Int32)))), .val (.int (p2 &&& (2147483647 : Int32))), .val (.int v35_8), .val (.int (p4 &&& (3 : Int32))), .val (.int (p4 >>> ((2 : Int32) &&& 31))), .val (.long v96_11), .second, .val (.long (((p0.toInt64) + (v96_11 * ((own_f1_0 (1 : Int32) (p1 &&& (2147483647 : Int32))).toInt64))) + (v35_8.toInt64))), .second, .val (.ref b2), .val (.int (own_f5_0 ((((p0.toInt64) + (v96_11 * ((own_f1_0 (1 : Int32) (p1 &&& (2147483647 : Int32))).toInt64))) + (v35_8.toInt64)).toInt32) p0 (own_f1_0 (1 : Int32) (p1 &&& (2147483647 : Int32))) (p2 &&& (2147483647 : Int32)) p3)), .val (.int t182_0), .unset] [(.int (-1 : Int32))])) (fun t k => ?_) ?_
              · show Steps p.tables e below (T182j.setTop (mkF m 197 #[.val (.int p0), .val (.int p1), .val (.int p2), .val (.int p3), .val (.int p4), .val (.int p5), .val (.int (own_f1_0 (1 : Int32) (p1 &&& (2147483647 : Int32)))), .val (.int (p2 &&& (2147483647 : Int32))), .val (.int v35_8), .val (.int (p4 &&& (3 : Int32))), .val (.int (p4 >>> ((2 : Int32) &&& 31))), .val (.long v96_11), .second, .val (.long (((p0.toInt64) + (v96_11 * ((own_f1_0 (1 : Int32) (p1 &&& (2147483647 : Int32))).toInt64))) + (v35_8.toInt64))), .second, .val (.ref b2), .val (.int (own_f5_0 ((((p0.toInt64) + (v96_11 * ((own_f1_0 (1 : Int32) (p1 &&& (2147483647 : Int32))).toInt64))) + (v35_8.toInt64)).toInt32) p0 (own_f1_0 (1 : Int32) (p1 &&& (2147483647 : Int32))) (p2 &&& (2147483647 : Int32)) p3)), .val (.int t182_0), .unset] [])) t
                refine XS.iconst X182j.here hx rfl (hb hby at_197) ?_
                show Steps p.tables e below (T182j.setTop (mkF m 198 #[.val (.int p0), .val (.int p1), .val (.int p2), .val (.int p3), .val (.int p4), .val (.int p5), .val (.int (own_f1_0 (1 : Int32) (p1 &&& (2147483647 : Int32)))), .val (.int (p2 &&& (2147483647 : Int32))), .val (.int v35_8), .val (.int (p4 &&& (3 : Int32))), .val (.int (p4 >>> ((2 : Int32) &&& 31))), .val (.long v96_11), .second, .val (.long (((p0.toInt64) + (v96_11 * ((own_f1_0 (1 : Int32) (p1 &&& (2147483647 : Int32))).toInt64))) + (v35_8.toInt64))), .second, .val (.ref b2), .val (.int (own_f5_0 ((((p0.toInt64) + (v96_11 * ((own_f1_0 (1 : Int32) (p1 &&& (2147483647 : Int32))).toInt64))) + (v35_8.toInt64)).toInt32) p0 (own_f1_0 (1 : Int32) (p1 &&& (2147483647 : Int32))) (p2 &&& (2147483647 : Int32)) p3)), .val (.int t182_0), .unset] [(.int (-1 : Int32))])) t
                exact k
              rw [show own_f0_182 p0 p1 p2 p3 t182_0 v96_11 v35_8 = (own_f0_198 p0 p1 p2 p3 (-1 : Int32) v96_11 v35_8) from (by rw [own_f0_182, if_pos hc186])]
              exact j198 T182j _ X182j e182j N182j (-1 : Int32)
            · refine Owe.step (T' := T182j) (g' := (mkF m 189 #[.val (.int p0), .val (.int p1), .val (.int p2), .val (.int p3), .val (.int p4), .val (.int p5), .val (.int (own_f1_0 (1 : Int32) (p1 &&& (2147483647 : Int32)))), .val (.int (p2 &&& (2147483647 : Int32))), .val (.int v35_8), .val (.int (p4 &&& (3 : Int32))), .val (.int (p4 >>> ((2 : Int32) &&& 31))), .val (.long v96_11), .second, .val (.long (((p0.toInt64) + (v96_11 * ((own_f1_0 (1 : Int32) (p1 &&& (2147483647 : Int32))).toInt64))) + (v35_8.toInt64))), .second, .val (.ref b2), .val (.int (own_f5_0 ((((p0.toInt64) + (v96_11 * ((own_f1_0 (1 : Int32) (p1 &&& (2147483647 : Int32))).toInt64))) + (v35_8.toInt64)).toInt32) p0 (own_f1_0 (1 : Int32) (p1 &&& (2147483647 : Int32))) (p2 &&& (2147483647 : Int32)) p3)), .val (.int t182_0), .unset] [])) (fun t k => ?_) ?_
              · show Steps p.tables e below (T182j.setTop (mkF m 186 #[.val (.int p0), .val (.int p1), .val (.int p2), .val (.int p3), .val (.int p4), .val (.int p5), .val (.int (own_f1_0 (1 : Int32) (p1 &&& (2147483647 : Int32)))), .val (.int (p2 &&& (2147483647 : Int32))), .val (.int v35_8), .val (.int (p4 &&& (3 : Int32))), .val (.int (p4 >>> ((2 : Int32) &&& 31))), .val (.long v96_11), .second, .val (.long (((p0.toInt64) + (v96_11 * ((own_f1_0 (1 : Int32) (p1 &&& (2147483647 : Int32))).toInt64))) + (v35_8.toInt64))), .second, .val (.ref b2), .val (.int (own_f5_0 ((((p0.toInt64) + (v96_11 * ((own_f1_0 (1 : Int32) (p1 &&& (2147483647 : Int32))).toInt64))) + (v35_8.toInt64)).toInt32) p0 (own_f1_0 (1 : Int32) (p1 &&& (2147483647 : Int32))) (p2 &&& (2147483647 : Int32)) p3)), .val (.int t182_0), .unset] [(.int t182_0)])) t
                refine XS.ifNo X182j.here hx rfl (hb hby at_186) rfl ((if0 _ _).trans (feq hc186).1) ?_
                show Steps p.tables e below (T182j.setTop (mkF m 189 #[.val (.int p0), .val (.int p1), .val (.int p2), .val (.int p3), .val (.int p4), .val (.int p5), .val (.int (own_f1_0 (1 : Int32) (p1 &&& (2147483647 : Int32)))), .val (.int (p2 &&& (2147483647 : Int32))), .val (.int v35_8), .val (.int (p4 &&& (3 : Int32))), .val (.int (p4 >>> ((2 : Int32) &&& 31))), .val (.long v96_11), .second, .val (.long (((p0.toInt64) + (v96_11 * ((own_f1_0 (1 : Int32) (p1 &&& (2147483647 : Int32))).toInt64))) + (v35_8.toInt64))), .second, .val (.ref b2), .val (.int (own_f5_0 ((((p0.toInt64) + (v96_11 * ((own_f1_0 (1 : Int32) (p1 &&& (2147483647 : Int32))).toInt64))) + (v35_8.toInt64)).toInt32) p0 (own_f1_0 (1 : Int32) (p1 &&& (2147483647 : Int32))) (p2 &&& (2147483647 : Int32)) p3)), .val (.int t182_0), .unset] [])) t
                exact k
              refine Owe.step (T' := T182j) (g' := (mkF m 198 #[.val (.int p0), .val (.int p1), .val (.int p2), .val (.int p3), .val (.int p4), .val (.int p5), .val (.int (own_f1_0 (1 : Int32) (p1 &&& (2147483647 : Int32)))), .val (.int (p2 &&& (2147483647 : Int32))), .val (.int v35_8), .val (.int (p4 &&& (3 : Int32))), .val (.int (p4 >>> ((2 : Int32) &&& 31))), .val (.long v96_11), .second, .val (.long (((p0.toInt64) + (v96_11 * ((own_f1_0 (1 : Int32) (p1 &&& (2147483647 : Int32))).toInt64))) + (v35_8.toInt64))), .second, .val (.ref b2), .val (.int (own_f5_0 ((((p0.toInt64) + (v96_11 * ((own_f1_0 (1 : Int32) (p1 &&& (2147483647 : Int32))).toInt64))) + (v35_8.toInt64)).toInt32) p0 (own_f1_0 (1 : Int32) (p1 &&& (2147483647 : Int32))) (p2 &&& (2147483647 : Int32)) p3)), .val (.int t182_0), .unset] [(.int (p3 + (v96_11.toInt32)))])) (fun t k => ?_) ?_
              · show Steps p.tables e below (T182j.setTop (mkF m 189 #[.val (.int p0), .val (.int p1), .val (.int p2), .val (.int p3), .val (.int p4), .val (.int p5), .val (.int (own_f1_0 (1 : Int32) (p1 &&& (2147483647 : Int32)))), .val (.int (p2 &&& (2147483647 : Int32))), .val (.int v35_8), .val (.int (p4 &&& (3 : Int32))), .val (.int (p4 >>> ((2 : Int32) &&& 31))), .val (.long v96_11), .second, .val (.long (((p0.toInt64) + (v96_11 * ((own_f1_0 (1 : Int32) (p1 &&& (2147483647 : Int32))).toInt64))) + (v35_8.toInt64))), .second, .val (.ref b2), .val (.int (own_f5_0 ((((p0.toInt64) + (v96_11 * ((own_f1_0 (1 : Int32) (p1 &&& (2147483647 : Int32))).toInt64))) + (v35_8.toInt64)).toInt32) p0 (own_f1_0 (1 : Int32) (p1 &&& (2147483647 : Int32))) (p2 &&& (2147483647 : Int32)) p3)), .val (.int t182_0), .unset] [])) t
                refine XS.iloadN X182j.here hx rfl (hb hby at_189) rfl ?_
                show Steps p.tables e below (T182j.setTop (mkF m 190 #[.val (.int p0), .val (.int p1), .val (.int p2), .val (.int p3), .val (.int p4), .val (.int p5), .val (.int (own_f1_0 (1 : Int32) (p1 &&& (2147483647 : Int32)))), .val (.int (p2 &&& (2147483647 : Int32))), .val (.int v35_8), .val (.int (p4 &&& (3 : Int32))), .val (.int (p4 >>> ((2 : Int32) &&& 31))), .val (.long v96_11), .second, .val (.long (((p0.toInt64) + (v96_11 * ((own_f1_0 (1 : Int32) (p1 &&& (2147483647 : Int32))).toInt64))) + (v35_8.toInt64))), .second, .val (.ref b2), .val (.int (own_f5_0 ((((p0.toInt64) + (v96_11 * ((own_f1_0 (1 : Int32) (p1 &&& (2147483647 : Int32))).toInt64))) + (v35_8.toInt64)).toInt32) p0 (own_f1_0 (1 : Int32) (p1 &&& (2147483647 : Int32))) (p2 &&& (2147483647 : Int32)) p3)), .val (.int t182_0), .unset] [(.int p3)])) t
                refine XS.lload X182j.here hx rfl (hb hby at_190) rfl ?_
                show Steps p.tables e below (T182j.setTop (mkF m 192 #[.val (.int p0), .val (.int p1), .val (.int p2), .val (.int p3), .val (.int p4), .val (.int p5), .val (.int (own_f1_0 (1 : Int32) (p1 &&& (2147483647 : Int32)))), .val (.int (p2 &&& (2147483647 : Int32))), .val (.int v35_8), .val (.int (p4 &&& (3 : Int32))), .val (.int (p4 >>> ((2 : Int32) &&& 31))), .val (.long v96_11), .second, .val (.long (((p0.toInt64) + (v96_11 * ((own_f1_0 (1 : Int32) (p1 &&& (2147483647 : Int32))).toInt64))) + (v35_8.toInt64))), .second, .val (.ref b2), .val (.int (own_f5_0 ((((p0.toInt64) + (v96_11 * ((own_f1_0 (1 : Int32) (p1 &&& (2147483647 : Int32))).toInt64))) + (v35_8.toInt64)).toInt32) p0 (own_f1_0 (1 : Int32) (p1 &&& (2147483647 : Int32))) (p2 &&& (2147483647 : Int32)) p3)), .val (.int t182_0), .unset] [(.long v96_11), (.int p3)])) t
                refine XS.l2i X182j.here hx rfl (hb hby at_192) rfl ?_
                show Steps p.tables e below (T182j.setTop (mkF m 193 #[.val (.int p0), .val (.int p1), .val (.int p2), .val (.int p3), .val (.int p4), .val (.int p5), .val (.int (own_f1_0 (1 : Int32) (p1 &&& (2147483647 : Int32)))), .val (.int (p2 &&& (2147483647 : Int32))), .val (.int v35_8), .val (.int (p4 &&& (3 : Int32))), .val (.int (p4 >>> ((2 : Int32) &&& 31))), .val (.long v96_11), .second, .val (.long (((p0.toInt64) + (v96_11 * ((own_f1_0 (1 : Int32) (p1 &&& (2147483647 : Int32))).toInt64))) + (v35_8.toInt64))), .second, .val (.ref b2), .val (.int (own_f5_0 ((((p0.toInt64) + (v96_11 * ((own_f1_0 (1 : Int32) (p1 &&& (2147483647 : Int32))).toInt64))) + (v35_8.toInt64)).toInt32) p0 (own_f1_0 (1 : Int32) (p1 &&& (2147483647 : Int32))) (p2 &&& (2147483647 : Int32)) p3)), .val (.int t182_0), .unset] [(.int (v96_11.toInt32)), (.int p3)])) t
                refine XS.iadd X182j.here hx rfl (hb hby at_193) rfl ?_
                show Steps p.tables e below (T182j.setTop (mkF m 194 #[.val (.int p0), .val (.int p1), .val (.int p2), .val (.int p3), .val (.int p4), .val (.int p5), .val (.int (own_f1_0 (1 : Int32) (p1 &&& (2147483647 : Int32)))), .val (.int (p2 &&& (2147483647 : Int32))), .val (.int v35_8), .val (.int (p4 &&& (3 : Int32))), .val (.int (p4 >>> ((2 : Int32) &&& 31))), .val (.long v96_11), .second, .val (.long (((p0.toInt64) + (v96_11 * ((own_f1_0 (1 : Int32) (p1 &&& (2147483647 : Int32))).toInt64))) + (v35_8.toInt64))), .second, .val (.ref b2), .val (.int (own_f5_0 ((((p0.toInt64) + (v96_11 * ((own_f1_0 (1 : Int32) (p1 &&& (2147483647 : Int32))).toInt64))) + (v35_8.toInt64)).toInt32) p0 (own_f1_0 (1 : Int32) (p1 &&& (2147483647 : Int32))) (p2 &&& (2147483647 : Int32)) p3)), .val (.int t182_0), .unset] [(.int (p3 + (v96_11.toInt32)))])) t
                refine XS.goto X182j.here hx rfl (pc0 := 194) (pc' := 198) rfl (hb hby at_194) (by decide) (by decide) ?_
                show Steps p.tables e below (T182j.setTop (mkF m 198 #[.val (.int p0), .val (.int p1), .val (.int p2), .val (.int p3), .val (.int p4), .val (.int p5), .val (.int (own_f1_0 (1 : Int32) (p1 &&& (2147483647 : Int32)))), .val (.int (p2 &&& (2147483647 : Int32))), .val (.int v35_8), .val (.int (p4 &&& (3 : Int32))), .val (.int (p4 >>> ((2 : Int32) &&& 31))), .val (.long v96_11), .second, .val (.long (((p0.toInt64) + (v96_11 * ((own_f1_0 (1 : Int32) (p1 &&& (2147483647 : Int32))).toInt64))) + (v35_8.toInt64))), .second, .val (.ref b2), .val (.int (own_f5_0 ((((p0.toInt64) + (v96_11 * ((own_f1_0 (1 : Int32) (p1 &&& (2147483647 : Int32))).toInt64))) + (v35_8.toInt64)).toInt32) p0 (own_f1_0 (1 : Int32) (p1 &&& (2147483647 : Int32))) (p2 &&& (2147483647 : Int32)) p3)), .val (.int t182_0), .unset] [(.int (p3 + (v96_11.toInt32)))])) t
                exact k
              rw [show own_f0_182 p0 p1 p2 p3 t182_0 v96_11 v35_8 = (own_f0_198 p0 p1 p2 p3 (p3 + (v96_11.toInt32)) v96_11 v35_8) from (by rw [own_f0_182, if_neg hc186])]
              exact j198 T182j _ X182j e182j N182j (p3 + (v96_11.toInt32))
          have j181 : ∀ (T : State) (Lc : List Loc) (X : Stand p l e room_1 s m #[(.int p0), (.int p1), (.int p2), (.int p3), (.int p4), (.int p5)] below meth c T Lc 1 4) (eT : T.heap = h3) (N : Fr n0 Lc), Owe p e below s 16 128 (QL (.int (own_f0_181 p0 p1 p2 p3 v96_11 v35_8)) n0) T (mkF m 181 #[.val (.int p0), .val (.int p1), .val (.int p2), .val (.int p3), .val (.int p4), .val (.int p5), .val (.int (own_f1_0 (1 : Int32) (p1 &&& (2147483647 : Int32)))), .val (.int (p2 &&& (2147483647 : Int32))), .val (.int v35_8), .val (.int (p4 &&& (3 : Int32))), .val (.int (p4 >>> ((2 : Int32) &&& 31))), .val (.long v96_11), .second, .val (.long (((p0.toInt64) + (v96_11 * ((own_f1_0 (1 : Int32) (p1 &&& (2147483647 : Int32))).toInt64))) + (v35_8.toInt64))), .second, .val (.ref b2), .val (.int (own_f5_0 ((((p0.toInt64) + (v96_11 * ((own_f1_0 (1 : Int32) (p1 &&& (2147483647 : Int32))).toInt64))) + (v35_8.toInt64)).toInt32) p0 (own_f1_0 (1 : Int32) (p1 &&& (2147483647 : Int32))) (p2 &&& (2147483647 : Int32)) p3)), .unset, .unset] []) := by
            intro T181j Lc181j X181j e181j N181j
            refine Owe.step (T' := T181j) (g' := (mkF m 182 #[.val (.int p0), .val (.int p1), .val (.int p2), .val (.int p3), .val (.int p4), .val (.int p5), .val (.int (own_f1_0 (1 : Int32) (p1 &&& (2147483647 : Int32)))), .val (.int (p2 &&& (2147483647 : Int32))), .val (.int v35_8), .val (.int (p4 &&& (3 : Int32))), .val (.int (p4 >>> ((2 : Int32) &&& 31))), .val (.long v96_11), .second, .val (.long (((p0.toInt64) + (v96_11 * ((own_f1_0 (1 : Int32) (p1 &&& (2147483647 : Int32))).toInt64))) + (v35_8.toInt64))), .second, .val (.ref b2), .val (.int (own_f5_0 ((((p0.toInt64) + (v96_11 * ((own_f1_0 (1 : Int32) (p1 &&& (2147483647 : Int32))).toInt64))) + (v35_8.toInt64)).toInt32) p0 (own_f1_0 (1 : Int32) (p1 &&& (2147483647 : Int32))) (p2 &&& (2147483647 : Int32)) p3)), .unset, .unset] [(.int (0 : Int32))])) (fun t k => ?_) ?_
            · show Steps p.tables e below (T181j.setTop (mkF m 181 #[.val (.int p0), .val (.int p1), .val (.int p2), .val (.int p3), .val (.int p4), .val (.int p5), .val (.int (own_f1_0 (1 : Int32) (p1 &&& (2147483647 : Int32)))), .val (.int (p2 &&& (2147483647 : Int32))), .val (.int v35_8), .val (.int (p4 &&& (3 : Int32))), .val (.int (p4 >>> ((2 : Int32) &&& 31))), .val (.long v96_11), .second, .val (.long (((p0.toInt64) + (v96_11 * ((own_f1_0 (1 : Int32) (p1 &&& (2147483647 : Int32))).toInt64))) + (v35_8.toInt64))), .second, .val (.ref b2), .val (.int (own_f5_0 ((((p0.toInt64) + (v96_11 * ((own_f1_0 (1 : Int32) (p1 &&& (2147483647 : Int32))).toInt64))) + (v35_8.toInt64)).toInt32) p0 (own_f1_0 (1 : Int32) (p1 &&& (2147483647 : Int32))) (p2 &&& (2147483647 : Int32)) p3)), .unset, .unset] [])) t
              refine XS.iconst X181j.here hx rfl (hb hby at_181) ?_
              show Steps p.tables e below (T181j.setTop (mkF m 182 #[.val (.int p0), .val (.int p1), .val (.int p2), .val (.int p3), .val (.int p4), .val (.int p5), .val (.int (own_f1_0 (1 : Int32) (p1 &&& (2147483647 : Int32)))), .val (.int (p2 &&& (2147483647 : Int32))), .val (.int v35_8), .val (.int (p4 &&& (3 : Int32))), .val (.int (p4 >>> ((2 : Int32) &&& 31))), .val (.long v96_11), .second, .val (.long (((p0.toInt64) + (v96_11 * ((own_f1_0 (1 : Int32) (p1 &&& (2147483647 : Int32))).toInt64))) + (v35_8.toInt64))), .second, .val (.ref b2), .val (.int (own_f5_0 ((((p0.toInt64) + (v96_11 * ((own_f1_0 (1 : Int32) (p1 &&& (2147483647 : Int32))).toInt64))) + (v35_8.toInt64)).toInt32) p0 (own_f1_0 (1 : Int32) (p1 &&& (2147483647 : Int32))) (p2 &&& (2147483647 : Int32)) p3)), .unset, .unset] [(.int (0 : Int32))])) t
              exact k
            rw [show own_f0_181 p0 p1 p2 p3 v96_11 v35_8 = (own_f0_182 p0 p1 p2 p3 (0 : Int32) v96_11 v35_8) from rfl]
            exact j182 T181j _ X181j e181j N181j (0 : Int32)
          by_cases hc158 : v35_8 = (0 : Int32)
          · refine Owe.step (T' := T4) (g' := (mkF m 161 #[.val (.int p0), .val (.int p1), .val (.int p2), .val (.int p3), .val (.int p4), .val (.int p5), .val (.int (own_f1_0 (1 : Int32) (p1 &&& (2147483647 : Int32)))), .val (.int (p2 &&& (2147483647 : Int32))), .val (.int v35_8), .val (.int (p4 &&& (3 : Int32))), .val (.int (p4 >>> ((2 : Int32) &&& 31))), .val (.long v96_11), .second, .val (.long (((p0.toInt64) + (v96_11 * ((own_f1_0 (1 : Int32) (p1 &&& (2147483647 : Int32))).toInt64))) + (v35_8.toInt64))), .second, .val (.ref b2), .val (.int (own_f5_0 ((((p0.toInt64) + (v96_11 * ((own_f1_0 (1 : Int32) (p1 &&& (2147483647 : Int32))).toInt64))) + (v35_8.toInt64)).toInt32) p0 (own_f1_0 (1 : Int32) (p1 &&& (2147483647 : Int32))) (p2 &&& (2147483647 : Int32)) p3)), .unset, .unset] [])) (fun t k => ?_) ?_
            · show Steps p.tables e below (T4.setTop (mkF m 158 #[.val (.int p0), .val (.int p1), .val (.int p2), .val (.int p3), .val (.int p4), .val (.int p5), .val (.int (own_f1_0 (1 : Int32) (p1 &&& (2147483647 : Int32)))), .val (.int (p2 &&& (2147483647 : Int32))), .val (.int v35_8), .val (.int (p4 &&& (3 : Int32))), .val (.int (p4 >>> ((2 : Int32) &&& 31))), .val (.long v96_11), .second, .val (.long (((p0.toInt64) + (v96_11 * ((own_f1_0 (1 : Int32) (p1 &&& (2147483647 : Int32))).toInt64))) + (v35_8.toInt64))), .second, .val (.ref b2), .val (.int (own_f5_0 ((((p0.toInt64) + (v96_11 * ((own_f1_0 (1 : Int32) (p1 &&& (2147483647 : Int32))).toInt64))) + (v35_8.toInt64)).toInt32) p0 (own_f1_0 (1 : Int32) (p1 &&& (2147483647 : Int32))) (p2 &&& (2147483647 : Int32)) p3)), .unset, .unset] [(.int v35_8)])) t
              refine XS.ifNo X4.here hx rfl (hb hby at_158) rfl ((if0 _ _).trans (teq hc158).2) ?_
              show Steps p.tables e below (T4.setTop (mkF m 161 #[.val (.int p0), .val (.int p1), .val (.int p2), .val (.int p3), .val (.int p4), .val (.int p5), .val (.int (own_f1_0 (1 : Int32) (p1 &&& (2147483647 : Int32)))), .val (.int (p2 &&& (2147483647 : Int32))), .val (.int v35_8), .val (.int (p4 &&& (3 : Int32))), .val (.int (p4 >>> ((2 : Int32) &&& 31))), .val (.long v96_11), .second, .val (.long (((p0.toInt64) + (v96_11 * ((own_f1_0 (1 : Int32) (p1 &&& (2147483647 : Int32))).toInt64))) + (v35_8.toInt64))), .second, .val (.ref b2), .val (.int (own_f5_0 ((((p0.toInt64) + (v96_11 * ((own_f1_0 (1 : Int32) (p1 &&& (2147483647 : Int32))).toInt64))) + (v35_8.toInt64)).toInt32) p0 (own_f1_0 (1 : Int32) (p1 &&& (2147483647 : Int32))) (p2 &&& (2147483647 : Int32)) p3)), .unset, .unset] [])) t
              exact k
            refine Owe.step (T' := T4) (g' := (mkF m 165 #[.val (.int p0), .val (.int p1), .val (.int p2), .val (.int p3), .val (.int p4), .val (.int p5), .val (.int (own_f1_0 (1 : Int32) (p1 &&& (2147483647 : Int32)))), .val (.int (p2 &&& (2147483647 : Int32))), .val (.int v35_8), .val (.int (p4 &&& (3 : Int32))), .val (.int (p4 >>> ((2 : Int32) &&& 31))), .val (.long v96_11), .second, .val (.long (((p0.toInt64) + (v96_11 * ((own_f1_0 (1 : Int32) (p1 &&& (2147483647 : Int32))).toInt64))) + (v35_8.toInt64))), .second, .val (.ref b2), .val (.int (own_f5_0 ((((p0.toInt64) + (v96_11 * ((own_f1_0 (1 : Int32) (p1 &&& (2147483647 : Int32))).toInt64))) + (v35_8.toInt64)).toInt32) p0 (own_f1_0 (1 : Int32) (p1 &&& (2147483647 : Int32))) (p2 &&& (2147483647 : Int32)) p3)), .unset, .unset] [(.int (lcmpW v96_11 (0 : Int64)))])) (fun t k => ?_) ?_
            · show Steps p.tables e below (T4.setTop (mkF m 161 #[.val (.int p0), .val (.int p1), .val (.int p2), .val (.int p3), .val (.int p4), .val (.int p5), .val (.int (own_f1_0 (1 : Int32) (p1 &&& (2147483647 : Int32)))), .val (.int (p2 &&& (2147483647 : Int32))), .val (.int v35_8), .val (.int (p4 &&& (3 : Int32))), .val (.int (p4 >>> ((2 : Int32) &&& 31))), .val (.long v96_11), .second, .val (.long (((p0.toInt64) + (v96_11 * ((own_f1_0 (1 : Int32) (p1 &&& (2147483647 : Int32))).toInt64))) + (v35_8.toInt64))), .second, .val (.ref b2), .val (.int (own_f5_0 ((((p0.toInt64) + (v96_11 * ((own_f1_0 (1 : Int32) (p1 &&& (2147483647 : Int32))).toInt64))) + (v35_8.toInt64)).toInt32) p0 (own_f1_0 (1 : Int32) (p1 &&& (2147483647 : Int32))) (p2 &&& (2147483647 : Int32)) p3)), .unset, .unset] [])) t
              refine XS.lload X4.here hx rfl (hb hby at_161) rfl ?_
              show Steps p.tables e below (T4.setTop (mkF m 163 #[.val (.int p0), .val (.int p1), .val (.int p2), .val (.int p3), .val (.int p4), .val (.int p5), .val (.int (own_f1_0 (1 : Int32) (p1 &&& (2147483647 : Int32)))), .val (.int (p2 &&& (2147483647 : Int32))), .val (.int v35_8), .val (.int (p4 &&& (3 : Int32))), .val (.int (p4 >>> ((2 : Int32) &&& 31))), .val (.long v96_11), .second, .val (.long (((p0.toInt64) + (v96_11 * ((own_f1_0 (1 : Int32) (p1 &&& (2147483647 : Int32))).toInt64))) + (v35_8.toInt64))), .second, .val (.ref b2), .val (.int (own_f5_0 ((((p0.toInt64) + (v96_11 * ((own_f1_0 (1 : Int32) (p1 &&& (2147483647 : Int32))).toInt64))) + (v35_8.toInt64)).toInt32) p0 (own_f1_0 (1 : Int32) (p1 &&& (2147483647 : Int32))) (p2 &&& (2147483647 : Int32)) p3)), .unset, .unset] [(.long v96_11)])) t
              refine XS.lconst X4.here hx rfl (hb hby at_163) ?_
              show Steps p.tables e below (T4.setTop (mkF m 164 #[.val (.int p0), .val (.int p1), .val (.int p2), .val (.int p3), .val (.int p4), .val (.int p5), .val (.int (own_f1_0 (1 : Int32) (p1 &&& (2147483647 : Int32)))), .val (.int (p2 &&& (2147483647 : Int32))), .val (.int v35_8), .val (.int (p4 &&& (3 : Int32))), .val (.int (p4 >>> ((2 : Int32) &&& 31))), .val (.long v96_11), .second, .val (.long (((p0.toInt64) + (v96_11 * ((own_f1_0 (1 : Int32) (p1 &&& (2147483647 : Int32))).toInt64))) + (v35_8.toInt64))), .second, .val (.ref b2), .val (.int (own_f5_0 ((((p0.toInt64) + (v96_11 * ((own_f1_0 (1 : Int32) (p1 &&& (2147483647 : Int32))).toInt64))) + (v35_8.toInt64)).toInt32) p0 (own_f1_0 (1 : Int32) (p1 &&& (2147483647 : Int32))) (p2 &&& (2147483647 : Int32)) p3)), .unset, .unset] [(.long (0 : Int64)), (.long v96_11)])) t
              refine XS.lcmp X4.here hx rfl (hb hby at_164) rfl ?_
              show Steps p.tables e below (T4.setTop (mkF m 165 #[.val (.int p0), .val (.int p1), .val (.int p2), .val (.int p3), .val (.int p4), .val (.int p5), .val (.int (own_f1_0 (1 : Int32) (p1 &&& (2147483647 : Int32)))), .val (.int (p2 &&& (2147483647 : Int32))), .val (.int v35_8), .val (.int (p4 &&& (3 : Int32))), .val (.int (p4 >>> ((2 : Int32) &&& 31))), .val (.long v96_11), .second, .val (.long (((p0.toInt64) + (v96_11 * ((own_f1_0 (1 : Int32) (p1 &&& (2147483647 : Int32))).toInt64))) + (v35_8.toInt64))), .second, .val (.ref b2), .val (.int (own_f5_0 ((((p0.toInt64) + (v96_11 * ((own_f1_0 (1 : Int32) (p1 &&& (2147483647 : Int32))).toInt64))) + (v35_8.toInt64)).toInt32) p0 (own_f1_0 (1 : Int32) (p1 &&& (2147483647 : Int32))) (p2 &&& (2147483647 : Int32)) p3)), .unset, .unset] [(.int (lcmpW v96_11 (0 : Int64)))])) t
              exact k
            by_cases hc165 : (lcmpW v96_11 (0 : Int64)) < (0 : Int32)
            · refine Owe.step (T' := T4) (g' := (mkF m 181 #[.val (.int p0), .val (.int p1), .val (.int p2), .val (.int p3), .val (.int p4), .val (.int p5), .val (.int (own_f1_0 (1 : Int32) (p1 &&& (2147483647 : Int32)))), .val (.int (p2 &&& (2147483647 : Int32))), .val (.int v35_8), .val (.int (p4 &&& (3 : Int32))), .val (.int (p4 >>> ((2 : Int32) &&& 31))), .val (.long v96_11), .second, .val (.long (((p0.toInt64) + (v96_11 * ((own_f1_0 (1 : Int32) (p1 &&& (2147483647 : Int32))).toInt64))) + (v35_8.toInt64))), .second, .val (.ref b2), .val (.int (own_f5_0 ((((p0.toInt64) + (v96_11 * ((own_f1_0 (1 : Int32) (p1 &&& (2147483647 : Int32))).toInt64))) + (v35_8.toInt64)).toInt32) p0 (own_f1_0 (1 : Int32) (p1 &&& (2147483647 : Int32))) (p2 &&& (2147483647 : Int32)) p3)), .unset, .unset] [])) (fun t k => ?_) ?_
              · show Steps p.tables e below (T4.setTop (mkF m 165 #[.val (.int p0), .val (.int p1), .val (.int p2), .val (.int p3), .val (.int p4), .val (.int p5), .val (.int (own_f1_0 (1 : Int32) (p1 &&& (2147483647 : Int32)))), .val (.int (p2 &&& (2147483647 : Int32))), .val (.int v35_8), .val (.int (p4 &&& (3 : Int32))), .val (.int (p4 >>> ((2 : Int32) &&& 31))), .val (.long v96_11), .second, .val (.long (((p0.toInt64) + (v96_11 * ((own_f1_0 (1 : Int32) (p1 &&& (2147483647 : Int32))).toInt64))) + (v35_8.toInt64))), .second, .val (.ref b2), .val (.int (own_f5_0 ((((p0.toInt64) + (v96_11 * ((own_f1_0 (1 : Int32) (p1 &&& (2147483647 : Int32))).toInt64))) + (v35_8.toInt64)).toInt32) p0 (own_f1_0 (1 : Int32) (p1 &&& (2147483647 : Int32))) (p2 &&& (2147483647 : Int32)) p3)), .unset, .unset] [(.int (lcmpW v96_11 (0 : Int64)))])) t
                refine XS.ifYes X4.here hx rfl (pc0 := 165) (pc' := 181) rfl (hb hby at_165) rfl ((if0 _ _).trans (tlt hc165).1) (by decide) (by decide) ?_
                show Steps p.tables e below (T4.setTop (mkF m 181 #[.val (.int p0), .val (.int p1), .val (.int p2), .val (.int p3), .val (.int p4), .val (.int p5), .val (.int (own_f1_0 (1 : Int32) (p1 &&& (2147483647 : Int32)))), .val (.int (p2 &&& (2147483647 : Int32))), .val (.int v35_8), .val (.int (p4 &&& (3 : Int32))), .val (.int (p4 >>> ((2 : Int32) &&& 31))), .val (.long v96_11), .second, .val (.long (((p0.toInt64) + (v96_11 * ((own_f1_0 (1 : Int32) (p1 &&& (2147483647 : Int32))).toInt64))) + (v35_8.toInt64))), .second, .val (.ref b2), .val (.int (own_f5_0 ((((p0.toInt64) + (v96_11 * ((own_f1_0 (1 : Int32) (p1 &&& (2147483647 : Int32))).toInt64))) + (v35_8.toInt64)).toInt32) p0 (own_f1_0 (1 : Int32) (p1 &&& (2147483647 : Int32))) (p2 &&& (2147483647 : Int32)) p3)), .unset, .unset] [])) t
                exact k
              rw [show own_f0_96 p0 p1 p2 p3 v96_11 v35_8 = (own_f0_181 p0 p1 p2 p3 v96_11 v35_8) from (by rw [own_f0_96, if_neg hc117, if_neg hc126, if_pos hc158, if_pos hc165])]
              exact j181 T4 _ X4 e4 N4
            · refine Owe.step (T' := T4) (g' := (mkF m 168 #[.val (.int p0), .val (.int p1), .val (.int p2), .val (.int p3), .val (.int p4), .val (.int p5), .val (.int (own_f1_0 (1 : Int32) (p1 &&& (2147483647 : Int32)))), .val (.int (p2 &&& (2147483647 : Int32))), .val (.int v35_8), .val (.int (p4 &&& (3 : Int32))), .val (.int (p4 >>> ((2 : Int32) &&& 31))), .val (.long v96_11), .second, .val (.long (((p0.toInt64) + (v96_11 * ((own_f1_0 (1 : Int32) (p1 &&& (2147483647 : Int32))).toInt64))) + (v35_8.toInt64))), .second, .val (.ref b2), .val (.int (own_f5_0 ((((p0.toInt64) + (v96_11 * ((own_f1_0 (1 : Int32) (p1 &&& (2147483647 : Int32))).toInt64))) + (v35_8.toInt64)).toInt32) p0 (own_f1_0 (1 : Int32) (p1 &&& (2147483647 : Int32))) (p2 &&& (2147483647 : Int32)) p3)), .unset, .unset] [])) (fun t k => ?_) ?_
              · show Steps p.tables e below (T4.setTop (mkF m 165 #[.val (.int p0), .val (.int p1), .val (.int p2), .val (.int p3), .val (.int p4), .val (.int p5), .val (.int (own_f1_0 (1 : Int32) (p1 &&& (2147483647 : Int32)))), .val (.int (p2 &&& (2147483647 : Int32))), .val (.int v35_8), .val (.int (p4 &&& (3 : Int32))), .val (.int (p4 >>> ((2 : Int32) &&& 31))), .val (.long v96_11), .second, .val (.long (((p0.toInt64) + (v96_11 * ((own_f1_0 (1 : Int32) (p1 &&& (2147483647 : Int32))).toInt64))) + (v35_8.toInt64))), .second, .val (.ref b2), .val (.int (own_f5_0 ((((p0.toInt64) + (v96_11 * ((own_f1_0 (1 : Int32) (p1 &&& (2147483647 : Int32))).toInt64))) + (v35_8.toInt64)).toInt32) p0 (own_f1_0 (1 : Int32) (p1 &&& (2147483647 : Int32))) (p2 &&& (2147483647 : Int32)) p3)), .unset, .unset] [(.int (lcmpW v96_11 (0 : Int64)))])) t
                refine XS.ifNo X4.here hx rfl (hb hby at_165) rfl ((if0 _ _).trans (flt hc165).1) ?_
                show Steps p.tables e below (T4.setTop (mkF m 168 #[.val (.int p0), .val (.int p1), .val (.int p2), .val (.int p3), .val (.int p4), .val (.int p5), .val (.int (own_f1_0 (1 : Int32) (p1 &&& (2147483647 : Int32)))), .val (.int (p2 &&& (2147483647 : Int32))), .val (.int v35_8), .val (.int (p4 &&& (3 : Int32))), .val (.int (p4 >>> ((2 : Int32) &&& 31))), .val (.long v96_11), .second, .val (.long (((p0.toInt64) + (v96_11 * ((own_f1_0 (1 : Int32) (p1 &&& (2147483647 : Int32))).toInt64))) + (v35_8.toInt64))), .second, .val (.ref b2), .val (.int (own_f5_0 ((((p0.toInt64) + (v96_11 * ((own_f1_0 (1 : Int32) (p1 &&& (2147483647 : Int32))).toInt64))) + (v35_8.toInt64)).toInt32) p0 (own_f1_0 (1 : Int32) (p1 &&& (2147483647 : Int32))) (p2 &&& (2147483647 : Int32)) p3)), .unset, .unset] [])) t
                exact k
              refine Owe.step (T' := T4) (g' := (mkF m 174 #[.val (.int p0), .val (.int p1), .val (.int p2), .val (.int p3), .val (.int p4), .val (.int p5), .val (.int (own_f1_0 (1 : Int32) (p1 &&& (2147483647 : Int32)))), .val (.int (p2 &&& (2147483647 : Int32))), .val (.int v35_8), .val (.int (p4 &&& (3 : Int32))), .val (.int (p4 >>> ((2 : Int32) &&& 31))), .val (.long v96_11), .second, .val (.long (((p0.toInt64) + (v96_11 * ((own_f1_0 (1 : Int32) (p1 &&& (2147483647 : Int32))).toInt64))) + (v35_8.toInt64))), .second, .val (.ref b2), .val (.int (own_f5_0 ((((p0.toInt64) + (v96_11 * ((own_f1_0 (1 : Int32) (p1 &&& (2147483647 : Int32))).toInt64))) + (v35_8.toInt64)).toInt32) p0 (own_f1_0 (1 : Int32) (p1 &&& (2147483647 : Int32))) (p2 &&& (2147483647 : Int32)) p3)), .unset, .unset] [(.int (lcmpW v96_11 ((p2 &&& (2147483647 : Int32)).toInt64)))])) (fun t k => ?_) ?_
              · show Steps p.tables e below (T4.setTop (mkF m 168 #[.val (.int p0), .val (.int p1), .val (.int p2), .val (.int p3), .val (.int p4), .val (.int p5), .val (.int (own_f1_0 (1 : Int32) (p1 &&& (2147483647 : Int32)))), .val (.int (p2 &&& (2147483647 : Int32))), .val (.int v35_8), .val (.int (p4 &&& (3 : Int32))), .val (.int (p4 >>> ((2 : Int32) &&& 31))), .val (.long v96_11), .second, .val (.long (((p0.toInt64) + (v96_11 * ((own_f1_0 (1 : Int32) (p1 &&& (2147483647 : Int32))).toInt64))) + (v35_8.toInt64))), .second, .val (.ref b2), .val (.int (own_f5_0 ((((p0.toInt64) + (v96_11 * ((own_f1_0 (1 : Int32) (p1 &&& (2147483647 : Int32))).toInt64))) + (v35_8.toInt64)).toInt32) p0 (own_f1_0 (1 : Int32) (p1 &&& (2147483647 : Int32))) (p2 &&& (2147483647 : Int32)) p3)), .unset, .unset] [])) t
                refine XS.lload X4.here hx rfl (hb hby at_168) rfl ?_
                show Steps p.tables e below (T4.setTop (mkF m 170 #[.val (.int p0), .val (.int p1), .val (.int p2), .val (.int p3), .val (.int p4), .val (.int p5), .val (.int (own_f1_0 (1 : Int32) (p1 &&& (2147483647 : Int32)))), .val (.int (p2 &&& (2147483647 : Int32))), .val (.int v35_8), .val (.int (p4 &&& (3 : Int32))), .val (.int (p4 >>> ((2 : Int32) &&& 31))), .val (.long v96_11), .second, .val (.long (((p0.toInt64) + (v96_11 * ((own_f1_0 (1 : Int32) (p1 &&& (2147483647 : Int32))).toInt64))) + (v35_8.toInt64))), .second, .val (.ref b2), .val (.int (own_f5_0 ((((p0.toInt64) + (v96_11 * ((own_f1_0 (1 : Int32) (p1 &&& (2147483647 : Int32))).toInt64))) + (v35_8.toInt64)).toInt32) p0 (own_f1_0 (1 : Int32) (p1 &&& (2147483647 : Int32))) (p2 &&& (2147483647 : Int32)) p3)), .unset, .unset] [(.long v96_11)])) t
                refine XS.iload X4.here hx rfl (hb hby at_170) rfl ?_
                show Steps p.tables e below (T4.setTop (mkF m 172 #[.val (.int p0), .val (.int p1), .val (.int p2), .val (.int p3), .val (.int p4), .val (.int p5), .val (.int (own_f1_0 (1 : Int32) (p1 &&& (2147483647 : Int32)))), .val (.int (p2 &&& (2147483647 : Int32))), .val (.int v35_8), .val (.int (p4 &&& (3 : Int32))), .val (.int (p4 >>> ((2 : Int32) &&& 31))), .val (.long v96_11), .second, .val (.long (((p0.toInt64) + (v96_11 * ((own_f1_0 (1 : Int32) (p1 &&& (2147483647 : Int32))).toInt64))) + (v35_8.toInt64))), .second, .val (.ref b2), .val (.int (own_f5_0 ((((p0.toInt64) + (v96_11 * ((own_f1_0 (1 : Int32) (p1 &&& (2147483647 : Int32))).toInt64))) + (v35_8.toInt64)).toInt32) p0 (own_f1_0 (1 : Int32) (p1 &&& (2147483647 : Int32))) (p2 &&& (2147483647 : Int32)) p3)), .unset, .unset] [(.int (p2 &&& (2147483647 : Int32))), (.long v96_11)])) t
                refine XS.i2l X4.here hx rfl (hb hby at_172) rfl ?_
                show Steps p.tables e below (T4.setTop (mkF m 173 #[.val (.int p0), .val (.int p1), .val (.int p2), .val (.int p3), .val (.int p4), .val (.int p5), .val (.int (own_f1_0 (1 : Int32) (p1 &&& (2147483647 : Int32)))), .val (.int (p2 &&& (2147483647 : Int32))), .val (.int v35_8), .val (.int (p4 &&& (3 : Int32))), .val (.int (p4 >>> ((2 : Int32) &&& 31))), .val (.long v96_11), .second, .val (.long (((p0.toInt64) + (v96_11 * ((own_f1_0 (1 : Int32) (p1 &&& (2147483647 : Int32))).toInt64))) + (v35_8.toInt64))), .second, .val (.ref b2), .val (.int (own_f5_0 ((((p0.toInt64) + (v96_11 * ((own_f1_0 (1 : Int32) (p1 &&& (2147483647 : Int32))).toInt64))) + (v35_8.toInt64)).toInt32) p0 (own_f1_0 (1 : Int32) (p1 &&& (2147483647 : Int32))) (p2 &&& (2147483647 : Int32)) p3)), .unset, .unset] [(.long ((p2 &&& (2147483647 : Int32)).toInt64)), (.long v96_11)])) t
                refine XS.lcmp X4.here hx rfl (hb hby at_173) rfl ?_
                show Steps p.tables e below (T4.setTop (mkF m 174 #[.val (.int p0), .val (.int p1), .val (.int p2), .val (.int p3), .val (.int p4), .val (.int p5), .val (.int (own_f1_0 (1 : Int32) (p1 &&& (2147483647 : Int32)))), .val (.int (p2 &&& (2147483647 : Int32))), .val (.int v35_8), .val (.int (p4 &&& (3 : Int32))), .val (.int (p4 >>> ((2 : Int32) &&& 31))), .val (.long v96_11), .second, .val (.long (((p0.toInt64) + (v96_11 * ((own_f1_0 (1 : Int32) (p1 &&& (2147483647 : Int32))).toInt64))) + (v35_8.toInt64))), .second, .val (.ref b2), .val (.int (own_f5_0 ((((p0.toInt64) + (v96_11 * ((own_f1_0 (1 : Int32) (p1 &&& (2147483647 : Int32))).toInt64))) + (v35_8.toInt64)).toInt32) p0 (own_f1_0 (1 : Int32) (p1 &&& (2147483647 : Int32))) (p2 &&& (2147483647 : Int32)) p3)), .unset, .unset] [(.int (lcmpW v96_11 ((p2 &&& (2147483647 : Int32)).toInt64)))])) t
                exact k
              by_cases hc174 : (lcmpW v96_11 ((p2 &&& (2147483647 : Int32)).toInt64)) < (0 : Int32)
              · refine Owe.step (T' := T4) (g' := (mkF m 177 #[.val (.int p0), .val (.int p1), .val (.int p2), .val (.int p3), .val (.int p4), .val (.int p5), .val (.int (own_f1_0 (1 : Int32) (p1 &&& (2147483647 : Int32)))), .val (.int (p2 &&& (2147483647 : Int32))), .val (.int v35_8), .val (.int (p4 &&& (3 : Int32))), .val (.int (p4 >>> ((2 : Int32) &&& 31))), .val (.long v96_11), .second, .val (.long (((p0.toInt64) + (v96_11 * ((own_f1_0 (1 : Int32) (p1 &&& (2147483647 : Int32))).toInt64))) + (v35_8.toInt64))), .second, .val (.ref b2), .val (.int (own_f5_0 ((((p0.toInt64) + (v96_11 * ((own_f1_0 (1 : Int32) (p1 &&& (2147483647 : Int32))).toInt64))) + (v35_8.toInt64)).toInt32) p0 (own_f1_0 (1 : Int32) (p1 &&& (2147483647 : Int32))) (p2 &&& (2147483647 : Int32)) p3)), .unset, .unset] [])) (fun t k => ?_) ?_
                · show Steps p.tables e below (T4.setTop (mkF m 174 #[.val (.int p0), .val (.int p1), .val (.int p2), .val (.int p3), .val (.int p4), .val (.int p5), .val (.int (own_f1_0 (1 : Int32) (p1 &&& (2147483647 : Int32)))), .val (.int (p2 &&& (2147483647 : Int32))), .val (.int v35_8), .val (.int (p4 &&& (3 : Int32))), .val (.int (p4 >>> ((2 : Int32) &&& 31))), .val (.long v96_11), .second, .val (.long (((p0.toInt64) + (v96_11 * ((own_f1_0 (1 : Int32) (p1 &&& (2147483647 : Int32))).toInt64))) + (v35_8.toInt64))), .second, .val (.ref b2), .val (.int (own_f5_0 ((((p0.toInt64) + (v96_11 * ((own_f1_0 (1 : Int32) (p1 &&& (2147483647 : Int32))).toInt64))) + (v35_8.toInt64)).toInt32) p0 (own_f1_0 (1 : Int32) (p1 &&& (2147483647 : Int32))) (p2 &&& (2147483647 : Int32)) p3)), .unset, .unset] [(.int (lcmpW v96_11 ((p2 &&& (2147483647 : Int32)).toInt64)))])) t
                  refine XS.ifNo X4.here hx rfl (hb hby at_174) rfl ((if0 _ _).trans (tlt hc174).2.1) ?_
                  show Steps p.tables e below (T4.setTop (mkF m 177 #[.val (.int p0), .val (.int p1), .val (.int p2), .val (.int p3), .val (.int p4), .val (.int p5), .val (.int (own_f1_0 (1 : Int32) (p1 &&& (2147483647 : Int32)))), .val (.int (p2 &&& (2147483647 : Int32))), .val (.int v35_8), .val (.int (p4 &&& (3 : Int32))), .val (.int (p4 >>> ((2 : Int32) &&& 31))), .val (.long v96_11), .second, .val (.long (((p0.toInt64) + (v96_11 * ((own_f1_0 (1 : Int32) (p1 &&& (2147483647 : Int32))).toInt64))) + (v35_8.toInt64))), .second, .val (.ref b2), .val (.int (own_f5_0 ((((p0.toInt64) + (v96_11 * ((own_f1_0 (1 : Int32) (p1 &&& (2147483647 : Int32))).toInt64))) + (v35_8.toInt64)).toInt32) p0 (own_f1_0 (1 : Int32) (p1 &&& (2147483647 : Int32))) (p2 &&& (2147483647 : Int32)) p3)), .unset, .unset] [])) t
                  exact k
                refine Owe.step (T' := T4) (g' := (mkF m 182 #[.val (.int p0), .val (.int p1), .val (.int p2), .val (.int p3), .val (.int p4), .val (.int p5), .val (.int (own_f1_0 (1 : Int32) (p1 &&& (2147483647 : Int32)))), .val (.int (p2 &&& (2147483647 : Int32))), .val (.int v35_8), .val (.int (p4 &&& (3 : Int32))), .val (.int (p4 >>> ((2 : Int32) &&& 31))), .val (.long v96_11), .second, .val (.long (((p0.toInt64) + (v96_11 * ((own_f1_0 (1 : Int32) (p1 &&& (2147483647 : Int32))).toInt64))) + (v35_8.toInt64))), .second, .val (.ref b2), .val (.int (own_f5_0 ((((p0.toInt64) + (v96_11 * ((own_f1_0 (1 : Int32) (p1 &&& (2147483647 : Int32))).toInt64))) + (v35_8.toInt64)).toInt32) p0 (own_f1_0 (1 : Int32) (p1 &&& (2147483647 : Int32))) (p2 &&& (2147483647 : Int32)) p3)), .unset, .unset] [(.int (1 : Int32))])) (fun t k => ?_) ?_
                · show Steps p.tables e below (T4.setTop (mkF m 177 #[.val (.int p0), .val (.int p1), .val (.int p2), .val (.int p3), .val (.int p4), .val (.int p5), .val (.int (own_f1_0 (1 : Int32) (p1 &&& (2147483647 : Int32)))), .val (.int (p2 &&& (2147483647 : Int32))), .val (.int v35_8), .val (.int (p4 &&& (3 : Int32))), .val (.int (p4 >>> ((2 : Int32) &&& 31))), .val (.long v96_11), .second, .val (.long (((p0.toInt64) + (v96_11 * ((own_f1_0 (1 : Int32) (p1 &&& (2147483647 : Int32))).toInt64))) + (v35_8.toInt64))), .second, .val (.ref b2), .val (.int (own_f5_0 ((((p0.toInt64) + (v96_11 * ((own_f1_0 (1 : Int32) (p1 &&& (2147483647 : Int32))).toInt64))) + (v35_8.toInt64)).toInt32) p0 (own_f1_0 (1 : Int32) (p1 &&& (2147483647 : Int32))) (p2 &&& (2147483647 : Int32)) p3)), .unset, .unset] [])) t
                  refine XS.iconst X4.here hx rfl (hb hby at_177) ?_
                  show Steps p.tables e below (T4.setTop (mkF m 178 #[.val (.int p0), .val (.int p1), .val (.int p2), .val (.int p3), .val (.int p4), .val (.int p5), .val (.int (own_f1_0 (1 : Int32) (p1 &&& (2147483647 : Int32)))), .val (.int (p2 &&& (2147483647 : Int32))), .val (.int v35_8), .val (.int (p4 &&& (3 : Int32))), .val (.int (p4 >>> ((2 : Int32) &&& 31))), .val (.long v96_11), .second, .val (.long (((p0.toInt64) + (v96_11 * ((own_f1_0 (1 : Int32) (p1 &&& (2147483647 : Int32))).toInt64))) + (v35_8.toInt64))), .second, .val (.ref b2), .val (.int (own_f5_0 ((((p0.toInt64) + (v96_11 * ((own_f1_0 (1 : Int32) (p1 &&& (2147483647 : Int32))).toInt64))) + (v35_8.toInt64)).toInt32) p0 (own_f1_0 (1 : Int32) (p1 &&& (2147483647 : Int32))) (p2 &&& (2147483647 : Int32)) p3)), .unset, .unset] [(.int (1 : Int32))])) t
                  refine XS.goto X4.here hx rfl (pc0 := 178) (pc' := 182) rfl (hb hby at_178) (by decide) (by decide) ?_
                  show Steps p.tables e below (T4.setTop (mkF m 182 #[.val (.int p0), .val (.int p1), .val (.int p2), .val (.int p3), .val (.int p4), .val (.int p5), .val (.int (own_f1_0 (1 : Int32) (p1 &&& (2147483647 : Int32)))), .val (.int (p2 &&& (2147483647 : Int32))), .val (.int v35_8), .val (.int (p4 &&& (3 : Int32))), .val (.int (p4 >>> ((2 : Int32) &&& 31))), .val (.long v96_11), .second, .val (.long (((p0.toInt64) + (v96_11 * ((own_f1_0 (1 : Int32) (p1 &&& (2147483647 : Int32))).toInt64))) + (v35_8.toInt64))), .second, .val (.ref b2), .val (.int (own_f5_0 ((((p0.toInt64) + (v96_11 * ((own_f1_0 (1 : Int32) (p1 &&& (2147483647 : Int32))).toInt64))) + (v35_8.toInt64)).toInt32) p0 (own_f1_0 (1 : Int32) (p1 &&& (2147483647 : Int32))) (p2 &&& (2147483647 : Int32)) p3)), .unset, .unset] [(.int (1 : Int32))])) t
                  exact k
                rw [show own_f0_96 p0 p1 p2 p3 v96_11 v35_8 = (own_f0_182 p0 p1 p2 p3 (1 : Int32) v96_11 v35_8) from (by rw [own_f0_96, if_neg hc117, if_neg hc126, if_pos hc158, if_neg hc165, if_pos hc174])]
                exact j182 T4 _ X4 e4 N4 (1 : Int32)
              · refine Owe.step (T' := T4) (g' := (mkF m 181 #[.val (.int p0), .val (.int p1), .val (.int p2), .val (.int p3), .val (.int p4), .val (.int p5), .val (.int (own_f1_0 (1 : Int32) (p1 &&& (2147483647 : Int32)))), .val (.int (p2 &&& (2147483647 : Int32))), .val (.int v35_8), .val (.int (p4 &&& (3 : Int32))), .val (.int (p4 >>> ((2 : Int32) &&& 31))), .val (.long v96_11), .second, .val (.long (((p0.toInt64) + (v96_11 * ((own_f1_0 (1 : Int32) (p1 &&& (2147483647 : Int32))).toInt64))) + (v35_8.toInt64))), .second, .val (.ref b2), .val (.int (own_f5_0 ((((p0.toInt64) + (v96_11 * ((own_f1_0 (1 : Int32) (p1 &&& (2147483647 : Int32))).toInt64))) + (v35_8.toInt64)).toInt32) p0 (own_f1_0 (1 : Int32) (p1 &&& (2147483647 : Int32))) (p2 &&& (2147483647 : Int32)) p3)), .unset, .unset] [])) (fun t k => ?_) ?_
                · show Steps p.tables e below (T4.setTop (mkF m 174 #[.val (.int p0), .val (.int p1), .val (.int p2), .val (.int p3), .val (.int p4), .val (.int p5), .val (.int (own_f1_0 (1 : Int32) (p1 &&& (2147483647 : Int32)))), .val (.int (p2 &&& (2147483647 : Int32))), .val (.int v35_8), .val (.int (p4 &&& (3 : Int32))), .val (.int (p4 >>> ((2 : Int32) &&& 31))), .val (.long v96_11), .second, .val (.long (((p0.toInt64) + (v96_11 * ((own_f1_0 (1 : Int32) (p1 &&& (2147483647 : Int32))).toInt64))) + (v35_8.toInt64))), .second, .val (.ref b2), .val (.int (own_f5_0 ((((p0.toInt64) + (v96_11 * ((own_f1_0 (1 : Int32) (p1 &&& (2147483647 : Int32))).toInt64))) + (v35_8.toInt64)).toInt32) p0 (own_f1_0 (1 : Int32) (p1 &&& (2147483647 : Int32))) (p2 &&& (2147483647 : Int32)) p3)), .unset, .unset] [(.int (lcmpW v96_11 ((p2 &&& (2147483647 : Int32)).toInt64)))])) t
                  refine XS.ifYes X4.here hx rfl (pc0 := 174) (pc' := 181) rfl (hb hby at_174) rfl ((if0 _ _).trans (flt hc174).2.1) (by decide) (by decide) ?_
                  show Steps p.tables e below (T4.setTop (mkF m 181 #[.val (.int p0), .val (.int p1), .val (.int p2), .val (.int p3), .val (.int p4), .val (.int p5), .val (.int (own_f1_0 (1 : Int32) (p1 &&& (2147483647 : Int32)))), .val (.int (p2 &&& (2147483647 : Int32))), .val (.int v35_8), .val (.int (p4 &&& (3 : Int32))), .val (.int (p4 >>> ((2 : Int32) &&& 31))), .val (.long v96_11), .second, .val (.long (((p0.toInt64) + (v96_11 * ((own_f1_0 (1 : Int32) (p1 &&& (2147483647 : Int32))).toInt64))) + (v35_8.toInt64))), .second, .val (.ref b2), .val (.int (own_f5_0 ((((p0.toInt64) + (v96_11 * ((own_f1_0 (1 : Int32) (p1 &&& (2147483647 : Int32))).toInt64))) + (v35_8.toInt64)).toInt32) p0 (own_f1_0 (1 : Int32) (p1 &&& (2147483647 : Int32))) (p2 &&& (2147483647 : Int32)) p3)), .unset, .unset] [])) t
                  exact k
                rw [show own_f0_96 p0 p1 p2 p3 v96_11 v35_8 = (own_f0_181 p0 p1 p2 p3 v96_11 v35_8) from (by rw [own_f0_96, if_neg hc117, if_neg hc126, if_pos hc158, if_neg hc165, if_neg hc174])]
                exact j181 T4 _ X4 e4 N4
          · refine Owe.step (T' := T4) (g' := (mkF m 181 #[.val (.int p0), .val (.int p1), .val (.int p2), .val (.int p3), .val (.int p4), .val (.int p5), .val (.int (own_f1_0 (1 : Int32) (p1 &&& (2147483647 : Int32)))), .val (.int (p2 &&& (2147483647 : Int32))), .val (.int v35_8), .val (.int (p4 &&& (3 : Int32))), .val (.int (p4 >>> ((2 : Int32) &&& 31))), .val (.long v96_11), .second, .val (.long (((p0.toInt64) + (v96_11 * ((own_f1_0 (1 : Int32) (p1 &&& (2147483647 : Int32))).toInt64))) + (v35_8.toInt64))), .second, .val (.ref b2), .val (.int (own_f5_0 ((((p0.toInt64) + (v96_11 * ((own_f1_0 (1 : Int32) (p1 &&& (2147483647 : Int32))).toInt64))) + (v35_8.toInt64)).toInt32) p0 (own_f1_0 (1 : Int32) (p1 &&& (2147483647 : Int32))) (p2 &&& (2147483647 : Int32)) p3)), .unset, .unset] [])) (fun t k => ?_) ?_
            · show Steps p.tables e below (T4.setTop (mkF m 158 #[.val (.int p0), .val (.int p1), .val (.int p2), .val (.int p3), .val (.int p4), .val (.int p5), .val (.int (own_f1_0 (1 : Int32) (p1 &&& (2147483647 : Int32)))), .val (.int (p2 &&& (2147483647 : Int32))), .val (.int v35_8), .val (.int (p4 &&& (3 : Int32))), .val (.int (p4 >>> ((2 : Int32) &&& 31))), .val (.long v96_11), .second, .val (.long (((p0.toInt64) + (v96_11 * ((own_f1_0 (1 : Int32) (p1 &&& (2147483647 : Int32))).toInt64))) + (v35_8.toInt64))), .second, .val (.ref b2), .val (.int (own_f5_0 ((((p0.toInt64) + (v96_11 * ((own_f1_0 (1 : Int32) (p1 &&& (2147483647 : Int32))).toInt64))) + (v35_8.toInt64)).toInt32) p0 (own_f1_0 (1 : Int32) (p1 &&& (2147483647 : Int32))) (p2 &&& (2147483647 : Int32)) p3)), .unset, .unset] [(.int v35_8)])) t
              refine XS.ifYes X4.here hx rfl (pc0 := 158) (pc' := 181) rfl (hb hby at_158) rfl ((if0 _ _).trans (feq hc158).2) (by decide) (by decide) ?_
              show Steps p.tables e below (T4.setTop (mkF m 181 #[.val (.int p0), .val (.int p1), .val (.int p2), .val (.int p3), .val (.int p4), .val (.int p5), .val (.int (own_f1_0 (1 : Int32) (p1 &&& (2147483647 : Int32)))), .val (.int (p2 &&& (2147483647 : Int32))), .val (.int v35_8), .val (.int (p4 &&& (3 : Int32))), .val (.int (p4 >>> ((2 : Int32) &&& 31))), .val (.long v96_11), .second, .val (.long (((p0.toInt64) + (v96_11 * ((own_f1_0 (1 : Int32) (p1 &&& (2147483647 : Int32))).toInt64))) + (v35_8.toInt64))), .second, .val (.ref b2), .val (.int (own_f5_0 ((((p0.toInt64) + (v96_11 * ((own_f1_0 (1 : Int32) (p1 &&& (2147483647 : Int32))).toInt64))) + (v35_8.toInt64)).toInt32) p0 (own_f1_0 (1 : Int32) (p1 &&& (2147483647 : Int32))) (p2 &&& (2147483647 : Int32)) p3)), .unset, .unset] [])) t
              exact k
            rw [show own_f0_96 p0 p1 p2 p3 v96_11 v35_8 = (own_f0_181 p0 p1 p2 p3 v96_11 v35_8) from (by rw [own_f0_96, if_neg hc117, if_neg hc126, if_neg hc158])]
            exact j181 T4 _ X4 e4 N4
    by_cases hc50 : (p4 &&& (3 : Int32)) = (1 : Int32)
    · refine Owe.step (T' := T35j) (g' := (mkF m 53 #[.val (.int p0), .val (.int p1), .val (.int p2), .val (.int p3), .val (.int p4), .val (.int p5), .val (.int (own_f1_0 (1 : Int32) (p1 &&& (2147483647 : Int32)))), .val (.int (p2 &&& (2147483647 : Int32))), .val (.int v35_8), .val (.int (p4 &&& (3 : Int32))), .val (.int (p4 >>> ((2 : Int32) &&& 31))), .unset, .unset, .unset, .unset, .unset, .unset, .unset, .unset] [])) (fun t k => ?_) ?_
      · show Steps p.tables e below (T35j.setTop (mkF m 50 #[.val (.int p0), .val (.int p1), .val (.int p2), .val (.int p3), .val (.int p4), .val (.int p5), .val (.int (own_f1_0 (1 : Int32) (p1 &&& (2147483647 : Int32)))), .val (.int (p2 &&& (2147483647 : Int32))), .val (.int v35_8), .val (.int (p4 &&& (3 : Int32))), .val (.int (p4 >>> ((2 : Int32) &&& 31))), .unset, .unset, .unset, .unset, .unset, .unset, .unset, .unset] [(.int (1 : Int32)), (.int (p4 &&& (3 : Int32)))])) t
        refine XS.icmpNo X35j.here hx rfl (hb hby at_50) rfl (teq hc50).2 ?_
        show Steps p.tables e below (T35j.setTop (mkF m 53 #[.val (.int p0), .val (.int p1), .val (.int p2), .val (.int p3), .val (.int p4), .val (.int p5), .val (.int (own_f1_0 (1 : Int32) (p1 &&& (2147483647 : Int32)))), .val (.int (p2 &&& (2147483647 : Int32))), .val (.int v35_8), .val (.int (p4 &&& (3 : Int32))), .val (.int (p4 >>> ((2 : Int32) &&& 31))), .unset, .unset, .unset, .unset, .unset, .unset, .unset, .unset] [])) t
        exact k
      refine Owe.step (T' := T35j) (g' := (mkF m 96 #[.val (.int p0), .val (.int p1), .val (.int p2), .val (.int p3), .val (.int p4), .val (.int p5), .val (.int (own_f1_0 (1 : Int32) (p1 &&& (2147483647 : Int32)))), .val (.int (p2 &&& (2147483647 : Int32))), .val (.int v35_8), .val (.int (p4 &&& (3 : Int32))), .val (.int (p4 >>> ((2 : Int32) &&& 31))), .val (.long ((((p2 &&& (2147483647 : Int32)).toInt64) - (2 : Int64)) + (((p4 >>> ((2 : Int32) &&& 31)) &&& (3 : Int32)).toInt64))), .second, .unset, .unset, .unset, .unset, .unset, .unset] [])) (fun t k => ?_) ?_
      · show Steps p.tables e below (T35j.setTop (mkF m 53 #[.val (.int p0), .val (.int p1), .val (.int p2), .val (.int p3), .val (.int p4), .val (.int p5), .val (.int (own_f1_0 (1 : Int32) (p1 &&& (2147483647 : Int32)))), .val (.int (p2 &&& (2147483647 : Int32))), .val (.int v35_8), .val (.int (p4 &&& (3 : Int32))), .val (.int (p4 >>> ((2 : Int32) &&& 31))), .unset, .unset, .unset, .unset, .unset, .unset, .unset, .unset] [])) t
        refine XS.iload X35j.here hx rfl (hb hby at_53) rfl ?_
        show Steps p.tables e below (T35j.setTop (mkF m 55 #[.val (.int p0), .val (.int p1), .val (.int p2), .val (.int p3), .val (.int p4), .val (.int p5), .val (.int (own_f1_0 (1 : Int32) (p1 &&& (2147483647 : Int32)))), .val (.int (p2 &&& (2147483647 : Int32))), .val (.int v35_8), .val (.int (p4 &&& (3 : Int32))), .val (.int (p4 >>> ((2 : Int32) &&& 31))), .unset, .unset, .unset, .unset, .unset, .unset, .unset, .unset] [(.int (p2 &&& (2147483647 : Int32)))])) t
        refine XS.i2l X35j.here hx rfl (hb hby at_55) rfl ?_
        show Steps p.tables e below (T35j.setTop (mkF m 56 #[.val (.int p0), .val (.int p1), .val (.int p2), .val (.int p3), .val (.int p4), .val (.int p5), .val (.int (own_f1_0 (1 : Int32) (p1 &&& (2147483647 : Int32)))), .val (.int (p2 &&& (2147483647 : Int32))), .val (.int v35_8), .val (.int (p4 &&& (3 : Int32))), .val (.int (p4 >>> ((2 : Int32) &&& 31))), .unset, .unset, .unset, .unset, .unset, .unset, .unset, .unset] [(.long ((p2 &&& (2147483647 : Int32)).toInt64))])) t
        refine X35j.ldc2Long hx hown (mvT hZ (hw _ (List.mem_of_getElem? (i := 34) rfl))) (g := (mkF m 56 #[.val (.int p0), .val (.int p1), .val (.int p2), .val (.int p3), .val (.int p4), .val (.int p5), .val (.int (own_f1_0 (1 : Int32) (p1 &&& (2147483647 : Int32)))), .val (.int (p2 &&& (2147483647 : Int32))), .val (.int v35_8), .val (.int (p4 &&& (3 : Int32))), .val (.int (p4 >>> ((2 : Int32) &&& 31))), .unset, .unset, .unset, .unset, .unset, .unset, .unset, .unset] [(.long ((p2 &&& (2147483647 : Int32)).toInt64))])) rfl (hb hby at_56) _ ?_
        show Steps p.tables e below (T35j.setTop (mkF m 59 #[.val (.int p0), .val (.int p1), .val (.int p2), .val (.int p3), .val (.int p4), .val (.int p5), .val (.int (own_f1_0 (1 : Int32) (p1 &&& (2147483647 : Int32)))), .val (.int (p2 &&& (2147483647 : Int32))), .val (.int v35_8), .val (.int (p4 &&& (3 : Int32))), .val (.int (p4 >>> ((2 : Int32) &&& 31))), .unset, .unset, .unset, .unset, .unset, .unset, .unset, .unset] [(.long (2 : Int64)), (.long ((p2 &&& (2147483647 : Int32)).toInt64))])) t
        refine XS.lsub X35j.here hx rfl (hb hby at_59) rfl ?_
        show Steps p.tables e below (T35j.setTop (mkF m 60 #[.val (.int p0), .val (.int p1), .val (.int p2), .val (.int p3), .val (.int p4), .val (.int p5), .val (.int (own_f1_0 (1 : Int32) (p1 &&& (2147483647 : Int32)))), .val (.int (p2 &&& (2147483647 : Int32))), .val (.int v35_8), .val (.int (p4 &&& (3 : Int32))), .val (.int (p4 >>> ((2 : Int32) &&& 31))), .unset, .unset, .unset, .unset, .unset, .unset, .unset, .unset] [(.long (((p2 &&& (2147483647 : Int32)).toInt64) - (2 : Int64)))])) t
        refine XS.iload X35j.here hx rfl (hb hby at_60) rfl ?_
        show Steps p.tables e below (T35j.setTop (mkF m 62 #[.val (.int p0), .val (.int p1), .val (.int p2), .val (.int p3), .val (.int p4), .val (.int p5), .val (.int (own_f1_0 (1 : Int32) (p1 &&& (2147483647 : Int32)))), .val (.int (p2 &&& (2147483647 : Int32))), .val (.int v35_8), .val (.int (p4 &&& (3 : Int32))), .val (.int (p4 >>> ((2 : Int32) &&& 31))), .unset, .unset, .unset, .unset, .unset, .unset, .unset, .unset] [(.int (p4 >>> ((2 : Int32) &&& 31))), (.long (((p2 &&& (2147483647 : Int32)).toInt64) - (2 : Int64)))])) t
        refine XS.iconst X35j.here hx rfl (hb hby at_62) ?_
        show Steps p.tables e below (T35j.setTop (mkF m 63 #[.val (.int p0), .val (.int p1), .val (.int p2), .val (.int p3), .val (.int p4), .val (.int p5), .val (.int (own_f1_0 (1 : Int32) (p1 &&& (2147483647 : Int32)))), .val (.int (p2 &&& (2147483647 : Int32))), .val (.int v35_8), .val (.int (p4 &&& (3 : Int32))), .val (.int (p4 >>> ((2 : Int32) &&& 31))), .unset, .unset, .unset, .unset, .unset, .unset, .unset, .unset] [(.int (3 : Int32)), (.int (p4 >>> ((2 : Int32) &&& 31))), (.long (((p2 &&& (2147483647 : Int32)).toInt64) - (2 : Int64)))])) t
        refine XS.iand X35j.here hx rfl (hb hby at_63) rfl ?_
        show Steps p.tables e below (T35j.setTop (mkF m 64 #[.val (.int p0), .val (.int p1), .val (.int p2), .val (.int p3), .val (.int p4), .val (.int p5), .val (.int (own_f1_0 (1 : Int32) (p1 &&& (2147483647 : Int32)))), .val (.int (p2 &&& (2147483647 : Int32))), .val (.int v35_8), .val (.int (p4 &&& (3 : Int32))), .val (.int (p4 >>> ((2 : Int32) &&& 31))), .unset, .unset, .unset, .unset, .unset, .unset, .unset, .unset] [(.int ((p4 >>> ((2 : Int32) &&& 31)) &&& (3 : Int32))), (.long (((p2 &&& (2147483647 : Int32)).toInt64) - (2 : Int64)))])) t
        refine XS.i2l X35j.here hx rfl (hb hby at_64) rfl ?_
        show Steps p.tables e below (T35j.setTop (mkF m 65 #[.val (.int p0), .val (.int p1), .val (.int p2), .val (.int p3), .val (.int p4), .val (.int p5), .val (.int (own_f1_0 (1 : Int32) (p1 &&& (2147483647 : Int32)))), .val (.int (p2 &&& (2147483647 : Int32))), .val (.int v35_8), .val (.int (p4 &&& (3 : Int32))), .val (.int (p4 >>> ((2 : Int32) &&& 31))), .unset, .unset, .unset, .unset, .unset, .unset, .unset, .unset] [(.long (((p4 >>> ((2 : Int32) &&& 31)) &&& (3 : Int32)).toInt64)), (.long (((p2 &&& (2147483647 : Int32)).toInt64) - (2 : Int64)))])) t
        refine XS.ladd X35j.here hx rfl (hb hby at_65) rfl ?_
        show Steps p.tables e below (T35j.setTop (mkF m 66 #[.val (.int p0), .val (.int p1), .val (.int p2), .val (.int p3), .val (.int p4), .val (.int p5), .val (.int (own_f1_0 (1 : Int32) (p1 &&& (2147483647 : Int32)))), .val (.int (p2 &&& (2147483647 : Int32))), .val (.int v35_8), .val (.int (p4 &&& (3 : Int32))), .val (.int (p4 >>> ((2 : Int32) &&& 31))), .unset, .unset, .unset, .unset, .unset, .unset, .unset, .unset] [(.long ((((p2 &&& (2147483647 : Int32)).toInt64) - (2 : Int64)) + (((p4 >>> ((2 : Int32) &&& 31)) &&& (3 : Int32)).toInt64)))])) t
        refine XS.lstore X35j.here hx rfl (hb hby at_66) rfl (l' := #[.val (.int p0), .val (.int p1), .val (.int p2), .val (.int p3), .val (.int p4), .val (.int p5), .val (.int (own_f1_0 (1 : Int32) (p1 &&& (2147483647 : Int32)))), .val (.int (p2 &&& (2147483647 : Int32))), .val (.int v35_8), .val (.int (p4 &&& (3 : Int32))), .val (.int (p4 >>> ((2 : Int32) &&& 31))), .val (.long ((((p2 &&& (2147483647 : Int32)).toInt64) - (2 : Int64)) + (((p4 >>> ((2 : Int32) &&& 31)) &&& (3 : Int32)).toInt64))), .second, .unset, .unset, .unset, .unset, .unset, .unset]) rfl ?_
        show Steps p.tables e below (T35j.setTop (mkF m 68 #[.val (.int p0), .val (.int p1), .val (.int p2), .val (.int p3), .val (.int p4), .val (.int p5), .val (.int (own_f1_0 (1 : Int32) (p1 &&& (2147483647 : Int32)))), .val (.int (p2 &&& (2147483647 : Int32))), .val (.int v35_8), .val (.int (p4 &&& (3 : Int32))), .val (.int (p4 >>> ((2 : Int32) &&& 31))), .val (.long ((((p2 &&& (2147483647 : Int32)).toInt64) - (2 : Int64)) + (((p4 >>> ((2 : Int32) &&& 31)) &&& (3 : Int32)).toInt64))), .second, .unset, .unset, .unset, .unset, .unset, .unset] [])) t
        refine XS.goto X35j.here hx rfl (pc0 := 68) (pc' := 96) rfl (hb hby at_68) (by decide) (by decide) ?_
        show Steps p.tables e below (T35j.setTop (mkF m 96 #[.val (.int p0), .val (.int p1), .val (.int p2), .val (.int p3), .val (.int p4), .val (.int p5), .val (.int (own_f1_0 (1 : Int32) (p1 &&& (2147483647 : Int32)))), .val (.int (p2 &&& (2147483647 : Int32))), .val (.int v35_8), .val (.int (p4 &&& (3 : Int32))), .val (.int (p4 >>> ((2 : Int32) &&& 31))), .val (.long ((((p2 &&& (2147483647 : Int32)).toInt64) - (2 : Int64)) + (((p4 >>> ((2 : Int32) &&& 31)) &&& (3 : Int32)).toInt64))), .second, .unset, .unset, .unset, .unset, .unset, .unset] [])) t
        exact k
      rw [show own_f0_35 p0 p1 p2 p3 p4 v35_8 = (own_f0_96 p0 p1 p2 p3 ((((p2 &&& (2147483647 : Int32)).toInt64) - (2 : Int64)) + (((p4 >>> ((2 : Int32) &&& 31)) &&& (3 : Int32)).toInt64)) v35_8) from (by rw [own_f0_35, if_pos hc50])]
      exact j96 T35j _ X35j e35j N35j ((((p2 &&& (2147483647 : Int32)).toInt64) - (2 : Int64)) + (((p4 >>> ((2 : Int32) &&& 31)) &&& (3 : Int32)).toInt64))
    · refine Owe.step (T' := T35j) (g' := (mkF m 71 #[.val (.int p0), .val (.int p1), .val (.int p2), .val (.int p3), .val (.int p4), .val (.int p5), .val (.int (own_f1_0 (1 : Int32) (p1 &&& (2147483647 : Int32)))), .val (.int (p2 &&& (2147483647 : Int32))), .val (.int v35_8), .val (.int (p4 &&& (3 : Int32))), .val (.int (p4 >>> ((2 : Int32) &&& 31))), .unset, .unset, .unset, .unset, .unset, .unset, .unset, .unset] [])) (fun t k => ?_) ?_
      · show Steps p.tables e below (T35j.setTop (mkF m 50 #[.val (.int p0), .val (.int p1), .val (.int p2), .val (.int p3), .val (.int p4), .val (.int p5), .val (.int (own_f1_0 (1 : Int32) (p1 &&& (2147483647 : Int32)))), .val (.int (p2 &&& (2147483647 : Int32))), .val (.int v35_8), .val (.int (p4 &&& (3 : Int32))), .val (.int (p4 >>> ((2 : Int32) &&& 31))), .unset, .unset, .unset, .unset, .unset, .unset, .unset, .unset] [(.int (1 : Int32)), (.int (p4 &&& (3 : Int32)))])) t
        refine XS.icmpYes X35j.here hx rfl (pc0 := 50) (pc' := 71) rfl (hb hby at_50) rfl (feq hc50).2 (by decide) (by decide) ?_
        show Steps p.tables e below (T35j.setTop (mkF m 71 #[.val (.int p0), .val (.int p1), .val (.int p2), .val (.int p3), .val (.int p4), .val (.int p5), .val (.int (own_f1_0 (1 : Int32) (p1 &&& (2147483647 : Int32)))), .val (.int (p2 &&& (2147483647 : Int32))), .val (.int v35_8), .val (.int (p4 &&& (3 : Int32))), .val (.int (p4 >>> ((2 : Int32) &&& 31))), .unset, .unset, .unset, .unset, .unset, .unset, .unset, .unset] [])) t
        exact k
      refine Owe.step (T' := T35j) (g' := (mkF m 74 #[.val (.int p0), .val (.int p1), .val (.int p2), .val (.int p3), .val (.int p4), .val (.int p5), .val (.int (own_f1_0 (1 : Int32) (p1 &&& (2147483647 : Int32)))), .val (.int (p2 &&& (2147483647 : Int32))), .val (.int v35_8), .val (.int (p4 &&& (3 : Int32))), .val (.int (p4 >>> ((2 : Int32) &&& 31))), .unset, .unset, .unset, .unset, .unset, .unset, .unset, .unset] [(.int (2 : Int32)), (.int (p4 &&& (3 : Int32)))])) (fun t k => ?_) ?_
      · show Steps p.tables e below (T35j.setTop (mkF m 71 #[.val (.int p0), .val (.int p1), .val (.int p2), .val (.int p3), .val (.int p4), .val (.int p5), .val (.int (own_f1_0 (1 : Int32) (p1 &&& (2147483647 : Int32)))), .val (.int (p2 &&& (2147483647 : Int32))), .val (.int v35_8), .val (.int (p4 &&& (3 : Int32))), .val (.int (p4 >>> ((2 : Int32) &&& 31))), .unset, .unset, .unset, .unset, .unset, .unset, .unset, .unset] [])) t
        refine XS.iload X35j.here hx rfl (hb hby at_71) rfl ?_
        show Steps p.tables e below (T35j.setTop (mkF m 73 #[.val (.int p0), .val (.int p1), .val (.int p2), .val (.int p3), .val (.int p4), .val (.int p5), .val (.int (own_f1_0 (1 : Int32) (p1 &&& (2147483647 : Int32)))), .val (.int (p2 &&& (2147483647 : Int32))), .val (.int v35_8), .val (.int (p4 &&& (3 : Int32))), .val (.int (p4 >>> ((2 : Int32) &&& 31))), .unset, .unset, .unset, .unset, .unset, .unset, .unset, .unset] [(.int (p4 &&& (3 : Int32)))])) t
        refine XS.iconst X35j.here hx rfl (hb hby at_73) ?_
        show Steps p.tables e below (T35j.setTop (mkF m 74 #[.val (.int p0), .val (.int p1), .val (.int p2), .val (.int p3), .val (.int p4), .val (.int p5), .val (.int (own_f1_0 (1 : Int32) (p1 &&& (2147483647 : Int32)))), .val (.int (p2 &&& (2147483647 : Int32))), .val (.int v35_8), .val (.int (p4 &&& (3 : Int32))), .val (.int (p4 >>> ((2 : Int32) &&& 31))), .unset, .unset, .unset, .unset, .unset, .unset, .unset, .unset] [(.int (2 : Int32)), (.int (p4 &&& (3 : Int32)))])) t
        exact k
      by_cases hc74 : (p4 &&& (3 : Int32)) = (2 : Int32)
      · refine Owe.step (T' := T35j) (g' := (mkF m 77 #[.val (.int p0), .val (.int p1), .val (.int p2), .val (.int p3), .val (.int p4), .val (.int p5), .val (.int (own_f1_0 (1 : Int32) (p1 &&& (2147483647 : Int32)))), .val (.int (p2 &&& (2147483647 : Int32))), .val (.int v35_8), .val (.int (p4 &&& (3 : Int32))), .val (.int (p4 >>> ((2 : Int32) &&& 31))), .unset, .unset, .unset, .unset, .unset, .unset, .unset, .unset] [])) (fun t k => ?_) ?_
        · show Steps p.tables e below (T35j.setTop (mkF m 74 #[.val (.int p0), .val (.int p1), .val (.int p2), .val (.int p3), .val (.int p4), .val (.int p5), .val (.int (own_f1_0 (1 : Int32) (p1 &&& (2147483647 : Int32)))), .val (.int (p2 &&& (2147483647 : Int32))), .val (.int v35_8), .val (.int (p4 &&& (3 : Int32))), .val (.int (p4 >>> ((2 : Int32) &&& 31))), .unset, .unset, .unset, .unset, .unset, .unset, .unset, .unset] [(.int (2 : Int32)), (.int (p4 &&& (3 : Int32)))])) t
          refine XS.icmpNo X35j.here hx rfl (hb hby at_74) rfl (teq hc74).2 ?_
          show Steps p.tables e below (T35j.setTop (mkF m 77 #[.val (.int p0), .val (.int p1), .val (.int p2), .val (.int p3), .val (.int p4), .val (.int p5), .val (.int (own_f1_0 (1 : Int32) (p1 &&& (2147483647 : Int32)))), .val (.int (p2 &&& (2147483647 : Int32))), .val (.int v35_8), .val (.int (p4 &&& (3 : Int32))), .val (.int (p4 >>> ((2 : Int32) &&& 31))), .unset, .unset, .unset, .unset, .unset, .unset, .unset, .unset] [])) t
          exact k
        refine Owe.step (T' := T35j) (g' := (mkF m 96 #[.val (.int p0), .val (.int p1), .val (.int p2), .val (.int p3), .val (.int p4), .val (.int p5), .val (.int (own_f1_0 (1 : Int32) (p1 &&& (2147483647 : Int32)))), .val (.int (p2 &&& (2147483647 : Int32))), .val (.int v35_8), .val (.int (p4 &&& (3 : Int32))), .val (.int (p4 >>> ((2 : Int32) &&& 31))), .val (.long ((((p4 >>> ((2 : Int32) &&& 31)) &&& (3 : Int32)).toInt64) - (2 : Int64))), .second, .unset, .unset, .unset, .unset, .unset, .unset] [])) (fun t k => ?_) ?_
        · show Steps p.tables e below (T35j.setTop (mkF m 77 #[.val (.int p0), .val (.int p1), .val (.int p2), .val (.int p3), .val (.int p4), .val (.int p5), .val (.int (own_f1_0 (1 : Int32) (p1 &&& (2147483647 : Int32)))), .val (.int (p2 &&& (2147483647 : Int32))), .val (.int v35_8), .val (.int (p4 &&& (3 : Int32))), .val (.int (p4 >>> ((2 : Int32) &&& 31))), .unset, .unset, .unset, .unset, .unset, .unset, .unset, .unset] [])) t
          refine XS.iload X35j.here hx rfl (hb hby at_77) rfl ?_
          show Steps p.tables e below (T35j.setTop (mkF m 79 #[.val (.int p0), .val (.int p1), .val (.int p2), .val (.int p3), .val (.int p4), .val (.int p5), .val (.int (own_f1_0 (1 : Int32) (p1 &&& (2147483647 : Int32)))), .val (.int (p2 &&& (2147483647 : Int32))), .val (.int v35_8), .val (.int (p4 &&& (3 : Int32))), .val (.int (p4 >>> ((2 : Int32) &&& 31))), .unset, .unset, .unset, .unset, .unset, .unset, .unset, .unset] [(.int (p4 >>> ((2 : Int32) &&& 31)))])) t
          refine XS.iconst X35j.here hx rfl (hb hby at_79) ?_
          show Steps p.tables e below (T35j.setTop (mkF m 80 #[.val (.int p0), .val (.int p1), .val (.int p2), .val (.int p3), .val (.int p4), .val (.int p5), .val (.int (own_f1_0 (1 : Int32) (p1 &&& (2147483647 : Int32)))), .val (.int (p2 &&& (2147483647 : Int32))), .val (.int v35_8), .val (.int (p4 &&& (3 : Int32))), .val (.int (p4 >>> ((2 : Int32) &&& 31))), .unset, .unset, .unset, .unset, .unset, .unset, .unset, .unset] [(.int (3 : Int32)), (.int (p4 >>> ((2 : Int32) &&& 31)))])) t
          refine XS.iand X35j.here hx rfl (hb hby at_80) rfl ?_
          show Steps p.tables e below (T35j.setTop (mkF m 81 #[.val (.int p0), .val (.int p1), .val (.int p2), .val (.int p3), .val (.int p4), .val (.int p5), .val (.int (own_f1_0 (1 : Int32) (p1 &&& (2147483647 : Int32)))), .val (.int (p2 &&& (2147483647 : Int32))), .val (.int v35_8), .val (.int (p4 &&& (3 : Int32))), .val (.int (p4 >>> ((2 : Int32) &&& 31))), .unset, .unset, .unset, .unset, .unset, .unset, .unset, .unset] [(.int ((p4 >>> ((2 : Int32) &&& 31)) &&& (3 : Int32)))])) t
          refine XS.i2l X35j.here hx rfl (hb hby at_81) rfl ?_
          show Steps p.tables e below (T35j.setTop (mkF m 82 #[.val (.int p0), .val (.int p1), .val (.int p2), .val (.int p3), .val (.int p4), .val (.int p5), .val (.int (own_f1_0 (1 : Int32) (p1 &&& (2147483647 : Int32)))), .val (.int (p2 &&& (2147483647 : Int32))), .val (.int v35_8), .val (.int (p4 &&& (3 : Int32))), .val (.int (p4 >>> ((2 : Int32) &&& 31))), .unset, .unset, .unset, .unset, .unset, .unset, .unset, .unset] [(.long (((p4 >>> ((2 : Int32) &&& 31)) &&& (3 : Int32)).toInt64))])) t
          refine X35j.ldc2Long hx hown (mvT hZ (hw _ (List.mem_of_getElem? (i := 34) rfl))) (g := (mkF m 82 #[.val (.int p0), .val (.int p1), .val (.int p2), .val (.int p3), .val (.int p4), .val (.int p5), .val (.int (own_f1_0 (1 : Int32) (p1 &&& (2147483647 : Int32)))), .val (.int (p2 &&& (2147483647 : Int32))), .val (.int v35_8), .val (.int (p4 &&& (3 : Int32))), .val (.int (p4 >>> ((2 : Int32) &&& 31))), .unset, .unset, .unset, .unset, .unset, .unset, .unset, .unset] [(.long (((p4 >>> ((2 : Int32) &&& 31)) &&& (3 : Int32)).toInt64))])) rfl (hb hby at_82) _ ?_
          show Steps p.tables e below (T35j.setTop (mkF m 85 #[.val (.int p0), .val (.int p1), .val (.int p2), .val (.int p3), .val (.int p4), .val (.int p5), .val (.int (own_f1_0 (1 : Int32) (p1 &&& (2147483647 : Int32)))), .val (.int (p2 &&& (2147483647 : Int32))), .val (.int v35_8), .val (.int (p4 &&& (3 : Int32))), .val (.int (p4 >>> ((2 : Int32) &&& 31))), .unset, .unset, .unset, .unset, .unset, .unset, .unset, .unset] [(.long (2 : Int64)), (.long (((p4 >>> ((2 : Int32) &&& 31)) &&& (3 : Int32)).toInt64))])) t
          refine XS.lsub X35j.here hx rfl (hb hby at_85) rfl ?_
          show Steps p.tables e below (T35j.setTop (mkF m 86 #[.val (.int p0), .val (.int p1), .val (.int p2), .val (.int p3), .val (.int p4), .val (.int p5), .val (.int (own_f1_0 (1 : Int32) (p1 &&& (2147483647 : Int32)))), .val (.int (p2 &&& (2147483647 : Int32))), .val (.int v35_8), .val (.int (p4 &&& (3 : Int32))), .val (.int (p4 >>> ((2 : Int32) &&& 31))), .unset, .unset, .unset, .unset, .unset, .unset, .unset, .unset] [(.long ((((p4 >>> ((2 : Int32) &&& 31)) &&& (3 : Int32)).toInt64) - (2 : Int64)))])) t
          refine XS.lstore X35j.here hx rfl (hb hby at_86) rfl (l' := #[.val (.int p0), .val (.int p1), .val (.int p2), .val (.int p3), .val (.int p4), .val (.int p5), .val (.int (own_f1_0 (1 : Int32) (p1 &&& (2147483647 : Int32)))), .val (.int (p2 &&& (2147483647 : Int32))), .val (.int v35_8), .val (.int (p4 &&& (3 : Int32))), .val (.int (p4 >>> ((2 : Int32) &&& 31))), .val (.long ((((p4 >>> ((2 : Int32) &&& 31)) &&& (3 : Int32)).toInt64) - (2 : Int64))), .second, .unset, .unset, .unset, .unset, .unset, .unset]) rfl ?_
          show Steps p.tables e below (T35j.setTop (mkF m 88 #[.val (.int p0), .val (.int p1), .val (.int p2), .val (.int p3), .val (.int p4), .val (.int p5), .val (.int (own_f1_0 (1 : Int32) (p1 &&& (2147483647 : Int32)))), .val (.int (p2 &&& (2147483647 : Int32))), .val (.int v35_8), .val (.int (p4 &&& (3 : Int32))), .val (.int (p4 >>> ((2 : Int32) &&& 31))), .val (.long ((((p4 >>> ((2 : Int32) &&& 31)) &&& (3 : Int32)).toInt64) - (2 : Int64))), .second, .unset, .unset, .unset, .unset, .unset, .unset] [])) t
          refine XS.goto X35j.here hx rfl (pc0 := 88) (pc' := 96) rfl (hb hby at_88) (by decide) (by decide) ?_
          show Steps p.tables e below (T35j.setTop (mkF m 96 #[.val (.int p0), .val (.int p1), .val (.int p2), .val (.int p3), .val (.int p4), .val (.int p5), .val (.int (own_f1_0 (1 : Int32) (p1 &&& (2147483647 : Int32)))), .val (.int (p2 &&& (2147483647 : Int32))), .val (.int v35_8), .val (.int (p4 &&& (3 : Int32))), .val (.int (p4 >>> ((2 : Int32) &&& 31))), .val (.long ((((p4 >>> ((2 : Int32) &&& 31)) &&& (3 : Int32)).toInt64) - (2 : Int64))), .second, .unset, .unset, .unset, .unset, .unset, .unset] [])) t
          exact k
        rw [show own_f0_35 p0 p1 p2 p3 p4 v35_8 = (own_f0_96 p0 p1 p2 p3 ((((p4 >>> ((2 : Int32) &&& 31)) &&& (3 : Int32)).toInt64) - (2 : Int64)) v35_8) from (by rw [own_f0_35, if_neg hc50, if_pos hc74])]
        exact j96 T35j _ X35j e35j N35j ((((p4 >>> ((2 : Int32) &&& 31)) &&& (3 : Int32)).toInt64) - (2 : Int64))
      · refine Owe.step (T' := T35j) (g' := (mkF m 91 #[.val (.int p0), .val (.int p1), .val (.int p2), .val (.int p3), .val (.int p4), .val (.int p5), .val (.int (own_f1_0 (1 : Int32) (p1 &&& (2147483647 : Int32)))), .val (.int (p2 &&& (2147483647 : Int32))), .val (.int v35_8), .val (.int (p4 &&& (3 : Int32))), .val (.int (p4 >>> ((2 : Int32) &&& 31))), .unset, .unset, .unset, .unset, .unset, .unset, .unset, .unset] [])) (fun t k => ?_) ?_
        · show Steps p.tables e below (T35j.setTop (mkF m 74 #[.val (.int p0), .val (.int p1), .val (.int p2), .val (.int p3), .val (.int p4), .val (.int p5), .val (.int (own_f1_0 (1 : Int32) (p1 &&& (2147483647 : Int32)))), .val (.int (p2 &&& (2147483647 : Int32))), .val (.int v35_8), .val (.int (p4 &&& (3 : Int32))), .val (.int (p4 >>> ((2 : Int32) &&& 31))), .unset, .unset, .unset, .unset, .unset, .unset, .unset, .unset] [(.int (2 : Int32)), (.int (p4 &&& (3 : Int32)))])) t
          refine XS.icmpYes X35j.here hx rfl (pc0 := 74) (pc' := 91) rfl (hb hby at_74) rfl (feq hc74).2 (by decide) (by decide) ?_
          show Steps p.tables e below (T35j.setTop (mkF m 91 #[.val (.int p0), .val (.int p1), .val (.int p2), .val (.int p3), .val (.int p4), .val (.int p5), .val (.int (own_f1_0 (1 : Int32) (p1 &&& (2147483647 : Int32)))), .val (.int (p2 &&& (2147483647 : Int32))), .val (.int v35_8), .val (.int (p4 &&& (3 : Int32))), .val (.int (p4 >>> ((2 : Int32) &&& 31))), .unset, .unset, .unset, .unset, .unset, .unset, .unset, .unset] [])) t
          exact k
        refine Owe.step (T' := T35j) (g' := (mkF m 96 #[.val (.int p0), .val (.int p1), .val (.int p2), .val (.int p3), .val (.int p4), .val (.int p5), .val (.int (own_f1_0 (1 : Int32) (p1 &&& (2147483647 : Int32)))), .val (.int (p2 &&& (2147483647 : Int32))), .val (.int v35_8), .val (.int (p4 &&& (3 : Int32))), .val (.int (p4 >>> ((2 : Int32) &&& 31))), .val (.long ((p4 >>> ((2 : Int32) &&& 31)).toInt64)), .second, .unset, .unset, .unset, .unset, .unset, .unset] [])) (fun t k => ?_) ?_
        · show Steps p.tables e below (T35j.setTop (mkF m 91 #[.val (.int p0), .val (.int p1), .val (.int p2), .val (.int p3), .val (.int p4), .val (.int p5), .val (.int (own_f1_0 (1 : Int32) (p1 &&& (2147483647 : Int32)))), .val (.int (p2 &&& (2147483647 : Int32))), .val (.int v35_8), .val (.int (p4 &&& (3 : Int32))), .val (.int (p4 >>> ((2 : Int32) &&& 31))), .unset, .unset, .unset, .unset, .unset, .unset, .unset, .unset] [])) t
          refine XS.iload X35j.here hx rfl (hb hby at_91) rfl ?_
          show Steps p.tables e below (T35j.setTop (mkF m 93 #[.val (.int p0), .val (.int p1), .val (.int p2), .val (.int p3), .val (.int p4), .val (.int p5), .val (.int (own_f1_0 (1 : Int32) (p1 &&& (2147483647 : Int32)))), .val (.int (p2 &&& (2147483647 : Int32))), .val (.int v35_8), .val (.int (p4 &&& (3 : Int32))), .val (.int (p4 >>> ((2 : Int32) &&& 31))), .unset, .unset, .unset, .unset, .unset, .unset, .unset, .unset] [(.int (p4 >>> ((2 : Int32) &&& 31)))])) t
          refine XS.i2l X35j.here hx rfl (hb hby at_93) rfl ?_
          show Steps p.tables e below (T35j.setTop (mkF m 94 #[.val (.int p0), .val (.int p1), .val (.int p2), .val (.int p3), .val (.int p4), .val (.int p5), .val (.int (own_f1_0 (1 : Int32) (p1 &&& (2147483647 : Int32)))), .val (.int (p2 &&& (2147483647 : Int32))), .val (.int v35_8), .val (.int (p4 &&& (3 : Int32))), .val (.int (p4 >>> ((2 : Int32) &&& 31))), .unset, .unset, .unset, .unset, .unset, .unset, .unset, .unset] [(.long ((p4 >>> ((2 : Int32) &&& 31)).toInt64))])) t
          refine XS.lstore X35j.here hx rfl (hb hby at_94) rfl (l' := #[.val (.int p0), .val (.int p1), .val (.int p2), .val (.int p3), .val (.int p4), .val (.int p5), .val (.int (own_f1_0 (1 : Int32) (p1 &&& (2147483647 : Int32)))), .val (.int (p2 &&& (2147483647 : Int32))), .val (.int v35_8), .val (.int (p4 &&& (3 : Int32))), .val (.int (p4 >>> ((2 : Int32) &&& 31))), .val (.long ((p4 >>> ((2 : Int32) &&& 31)).toInt64)), .second, .unset, .unset, .unset, .unset, .unset, .unset]) rfl ?_
          show Steps p.tables e below (T35j.setTop (mkF m 96 #[.val (.int p0), .val (.int p1), .val (.int p2), .val (.int p3), .val (.int p4), .val (.int p5), .val (.int (own_f1_0 (1 : Int32) (p1 &&& (2147483647 : Int32)))), .val (.int (p2 &&& (2147483647 : Int32))), .val (.int v35_8), .val (.int (p4 &&& (3 : Int32))), .val (.int (p4 >>> ((2 : Int32) &&& 31))), .val (.long ((p4 >>> ((2 : Int32) &&& 31)).toInt64)), .second, .unset, .unset, .unset, .unset, .unset, .unset] [])) t
          exact k
        rw [show own_f0_35 p0 p1 p2 p3 p4 v35_8 = (own_f0_96 p0 p1 p2 p3 ((p4 >>> ((2 : Int32) &&& 31)).toInt64) v35_8) from (by rw [own_f0_35, if_neg hc50, if_neg hc74])]
        exact j96 T35j _ X35j e35j N35j ((p4 >>> ((2 : Int32) &&& 31)).toInt64)
  by_cases hc23 : (p5 &&& (1 : Int32)) = (0 : Int32)
  · refine Owe.step (T' := T1) (g' := (mkF m 35 #[.val (.int p0), .val (.int p1), .val (.int p2), .val (.int p3), .val (.int p4), .val (.int p5), .val (.int (own_f1_0 (1 : Int32) (p1 &&& (2147483647 : Int32)))), .val (.int (p2 &&& (2147483647 : Int32))), .val (.int (0 : Int32)), .unset, .unset, .unset, .unset, .unset, .unset, .unset, .unset, .unset, .unset] [])) (fun t k => ?_) ?_
    · show Steps p.tables e below (T1.setTop (mkF m 23 #[.val (.int p0), .val (.int p1), .val (.int p2), .val (.int p3), .val (.int p4), .val (.int p5), .val (.int (own_f1_0 (1 : Int32) (p1 &&& (2147483647 : Int32)))), .val (.int (p2 &&& (2147483647 : Int32))), .val (.int (0 : Int32)), .unset, .unset, .unset, .unset, .unset, .unset, .unset, .unset, .unset, .unset] [(.int (p5 &&& (1 : Int32)))])) t
      refine XS.ifYes X1.here hx rfl (pc0 := 23) (pc' := 35) rfl (hb hby at_23) rfl ((if0 _ _).trans (teq hc23).1) (by decide) (by decide) ?_
      show Steps p.tables e below (T1.setTop (mkF m 35 #[.val (.int p0), .val (.int p1), .val (.int p2), .val (.int p3), .val (.int p4), .val (.int p5), .val (.int (own_f1_0 (1 : Int32) (p1 &&& (2147483647 : Int32)))), .val (.int (p2 &&& (2147483647 : Int32))), .val (.int (0 : Int32)), .unset, .unset, .unset, .unset, .unset, .unset, .unset, .unset, .unset, .unset] [])) t
      exact k
    refine Owe.cast (show (own_f0_35 p0 p1 p2 p3 p4 (0 : Int32)) = (1 : Int32) from (show own_f0_0 p0 p1 p2 p3 p4 p5 = (own_f0_35 p0 p1 p2 p3 p4 (0 : Int32)) from (by rw [own_f0_0, if_pos hc23])).symm.trans (own_law p0 p1 p2 p3 p4 p5 )) ?_
    exact j35 T1 _ X1 e1 N1 (0 : Int32)
  · refine Owe.step (T' := T1) (g' := (mkF m 26 #[.val (.int p0), .val (.int p1), .val (.int p2), .val (.int p3), .val (.int p4), .val (.int p5), .val (.int (own_f1_0 (1 : Int32) (p1 &&& (2147483647 : Int32)))), .val (.int (p2 &&& (2147483647 : Int32))), .val (.int (0 : Int32)), .unset, .unset, .unset, .unset, .unset, .unset, .unset, .unset, .unset, .unset] [])) (fun t k => ?_) ?_
    · show Steps p.tables e below (T1.setTop (mkF m 23 #[.val (.int p0), .val (.int p1), .val (.int p2), .val (.int p3), .val (.int p4), .val (.int p5), .val (.int (own_f1_0 (1 : Int32) (p1 &&& (2147483647 : Int32)))), .val (.int (p2 &&& (2147483647 : Int32))), .val (.int (0 : Int32)), .unset, .unset, .unset, .unset, .unset, .unset, .unset, .unset, .unset, .unset] [(.int (p5 &&& (1 : Int32)))])) t
      refine XS.ifNo X1.here hx rfl (hb hby at_23) rfl ((if0 _ _).trans (feq hc23).1) ?_
      show Steps p.tables e below (T1.setTop (mkF m 26 #[.val (.int p0), .val (.int p1), .val (.int p2), .val (.int p3), .val (.int p4), .val (.int p5), .val (.int (own_f1_0 (1 : Int32) (p1 &&& (2147483647 : Int32)))), .val (.int (p2 &&& (2147483647 : Int32))), .val (.int (0 : Int32)), .unset, .unset, .unset, .unset, .unset, .unset, .unset, .unset, .unset, .unset] [])) t
      exact k
    refine Owe.step (T' := T1) (g' := (mkF m 35 #[.val (.int p0), .val (.int p1), .val (.int p2), .val (.int p3), .val (.int p4), .val (.int p5), .val (.int (own_f1_0 (1 : Int32) (p1 &&& (2147483647 : Int32)))), .val (.int (p2 &&& (2147483647 : Int32))), .val (.int (((p5.toUInt32 >>> ((1 : Int32) &&& 31).toUInt32).toInt32) - (((p5.toUInt32 >>> ((1 : Int32) &&& 31).toUInt32).toInt32) / (own_f1_0 (1 : Int32) (p1 &&& (2147483647 : Int32)))) * (own_f1_0 (1 : Int32) (p1 &&& (2147483647 : Int32))))), .unset, .unset, .unset, .unset, .unset, .unset, .unset, .unset, .unset, .unset] [])) (fun t k => ?_) ?_
    · show Steps p.tables e below (T1.setTop (mkF m 26 #[.val (.int p0), .val (.int p1), .val (.int p2), .val (.int p3), .val (.int p4), .val (.int p5), .val (.int (own_f1_0 (1 : Int32) (p1 &&& (2147483647 : Int32)))), .val (.int (p2 &&& (2147483647 : Int32))), .val (.int (0 : Int32)), .unset, .unset, .unset, .unset, .unset, .unset, .unset, .unset, .unset, .unset] [])) t
      refine XS.iload X1.here hx rfl (hb hby at_26) rfl ?_
      show Steps p.tables e below (T1.setTop (mkF m 28 #[.val (.int p0), .val (.int p1), .val (.int p2), .val (.int p3), .val (.int p4), .val (.int p5), .val (.int (own_f1_0 (1 : Int32) (p1 &&& (2147483647 : Int32)))), .val (.int (p2 &&& (2147483647 : Int32))), .val (.int (0 : Int32)), .unset, .unset, .unset, .unset, .unset, .unset, .unset, .unset, .unset, .unset] [(.int p5)])) t
      refine XS.iconst X1.here hx rfl (hb hby at_28) ?_
      show Steps p.tables e below (T1.setTop (mkF m 29 #[.val (.int p0), .val (.int p1), .val (.int p2), .val (.int p3), .val (.int p4), .val (.int p5), .val (.int (own_f1_0 (1 : Int32) (p1 &&& (2147483647 : Int32)))), .val (.int (p2 &&& (2147483647 : Int32))), .val (.int (0 : Int32)), .unset, .unset, .unset, .unset, .unset, .unset, .unset, .unset, .unset, .unset] [(.int (1 : Int32)), (.int p5)])) t
      refine XS.iushr X1.here hx rfl (hb hby at_29) rfl ?_
      show Steps p.tables e below (T1.setTop (mkF m 30 #[.val (.int p0), .val (.int p1), .val (.int p2), .val (.int p3), .val (.int p4), .val (.int p5), .val (.int (own_f1_0 (1 : Int32) (p1 &&& (2147483647 : Int32)))), .val (.int (p2 &&& (2147483647 : Int32))), .val (.int (0 : Int32)), .unset, .unset, .unset, .unset, .unset, .unset, .unset, .unset, .unset, .unset] [(.int ((p5.toUInt32 >>> ((1 : Int32) &&& 31).toUInt32).toInt32))])) t
      refine XS.iload X1.here hx rfl (hb hby at_30) rfl ?_
      show Steps p.tables e below (T1.setTop (mkF m 32 #[.val (.int p0), .val (.int p1), .val (.int p2), .val (.int p3), .val (.int p4), .val (.int p5), .val (.int (own_f1_0 (1 : Int32) (p1 &&& (2147483647 : Int32)))), .val (.int (p2 &&& (2147483647 : Int32))), .val (.int (0 : Int32)), .unset, .unset, .unset, .unset, .unset, .unset, .unset, .unset, .unset, .unset] [(.int (own_f1_0 (1 : Int32) (p1 &&& (2147483647 : Int32)))), (.int ((p5.toUInt32 >>> ((1 : Int32) &&& 31).toUInt32).toInt32))])) t
      refine XS.irem X1.here hx rfl (hb hby at_32) rfl (own_pnz p1) ?_
      show Steps p.tables e below (T1.setTop (mkF m 33 #[.val (.int p0), .val (.int p1), .val (.int p2), .val (.int p3), .val (.int p4), .val (.int p5), .val (.int (own_f1_0 (1 : Int32) (p1 &&& (2147483647 : Int32)))), .val (.int (p2 &&& (2147483647 : Int32))), .val (.int (0 : Int32)), .unset, .unset, .unset, .unset, .unset, .unset, .unset, .unset, .unset, .unset] [(.int (((p5.toUInt32 >>> ((1 : Int32) &&& 31).toUInt32).toInt32) - (((p5.toUInt32 >>> ((1 : Int32) &&& 31).toUInt32).toInt32) / (own_f1_0 (1 : Int32) (p1 &&& (2147483647 : Int32)))) * (own_f1_0 (1 : Int32) (p1 &&& (2147483647 : Int32)))))])) t
      refine XS.istore X1.here hx rfl (hb hby at_33) rfl (l' := #[.val (.int p0), .val (.int p1), .val (.int p2), .val (.int p3), .val (.int p4), .val (.int p5), .val (.int (own_f1_0 (1 : Int32) (p1 &&& (2147483647 : Int32)))), .val (.int (p2 &&& (2147483647 : Int32))), .val (.int (((p5.toUInt32 >>> ((1 : Int32) &&& 31).toUInt32).toInt32) - (((p5.toUInt32 >>> ((1 : Int32) &&& 31).toUInt32).toInt32) / (own_f1_0 (1 : Int32) (p1 &&& (2147483647 : Int32)))) * (own_f1_0 (1 : Int32) (p1 &&& (2147483647 : Int32))))), .unset, .unset, .unset, .unset, .unset, .unset, .unset, .unset, .unset, .unset]) rfl ?_
      show Steps p.tables e below (T1.setTop (mkF m 35 #[.val (.int p0), .val (.int p1), .val (.int p2), .val (.int p3), .val (.int p4), .val (.int p5), .val (.int (own_f1_0 (1 : Int32) (p1 &&& (2147483647 : Int32)))), .val (.int (p2 &&& (2147483647 : Int32))), .val (.int (((p5.toUInt32 >>> ((1 : Int32) &&& 31).toUInt32).toInt32) - (((p5.toUInt32 >>> ((1 : Int32) &&& 31).toUInt32).toInt32) / (own_f1_0 (1 : Int32) (p1 &&& (2147483647 : Int32)))) * (own_f1_0 (1 : Int32) (p1 &&& (2147483647 : Int32))))), .unset, .unset, .unset, .unset, .unset, .unset, .unset, .unset, .unset, .unset] [])) t
      exact k
    refine Owe.cast (show (own_f0_35 p0 p1 p2 p3 p4 (((p5.toUInt32 >>> ((1 : Int32) &&& 31).toUInt32).toInt32) - (((p5.toUInt32 >>> ((1 : Int32) &&& 31).toUInt32).toInt32) / (own_f1_0 (1 : Int32) (p1 &&& (2147483647 : Int32)))) * (own_f1_0 (1 : Int32) (p1 &&& (2147483647 : Int32))))) = (1 : Int32) from (show own_f0_0 p0 p1 p2 p3 p4 p5 = (own_f0_35 p0 p1 p2 p3 p4 (((p5.toUInt32 >>> ((1 : Int32) &&& 31).toUInt32).toInt32) - (((p5.toUInt32 >>> ((1 : Int32) &&& 31).toUInt32).toInt32) / (own_f1_0 (1 : Int32) (p1 &&& (2147483647 : Int32)))) * (own_f1_0 (1 : Int32) (p1 &&& (2147483647 : Int32))))) from (by rw [own_f0_0, if_neg hc23])).symm.trans (own_law p0 p1 p2 p3 p4 p5 )) ?_
    exact j35 T1 _ X1 e1 N1 (((p5.toUInt32 >>> ((1 : Int32) &&& 31).toUInt32).toInt32) - (((p5.toUInt32 >>> ((1 : Int32) &&& 31).toUInt32).toInt32) / (own_f1_0 (1 : Int32) (p1 &&& (2147483647 : Int32)))) * (own_f1_0 (1 : Int32) (p1 &&& (2147483647 : Int32))))
set_option maxRecDepth 65536 in
set_option maxHeartbeats 40000000 in
theorem comes_1 {Post : Tables → Env → Array Value → State → Outcome → State → Prop} (hpost : ∀ tb e args s v u, (limb_1_1.after args s (.returned v) u = true ∧ limb_1_2.after args s (.returned v) u = true ∧ True) → FrameEnd s (.returned v) u (Jvm.fieldLocs frame_1_writes args s ++ Jvm.arrayLocs frame_1_arrays args s ++ Jvm.staticLocs frame_1_statics s) 16 128 → Post tb e args s (.returned v) u) :
    ArmFor flags0 classFile x code maxLocals ret World_1 tables_1 room_1 Calls_1 rest_1 Pre_1 Post := by
  intro l hfl _ _ p e ha hc hk s m args below hf hA hF happ hP
  obtain ⟨hcalls, hrest, hpre⟩ := hP
  obtain ⟨-, -, -, hnamed, -, -, -, hat⟩ := (Spec.applies_iff hf).mp happ
  obtain ⟨hg, hn⟩ := and_e (Cond.before_iff.mp (show (Jvm.Cond.and given_1 narrow_1).before args s = true from hpre))
  obtain ⟨ga1, gb1⟩ := and_e hg
  obtain ⟨ga2, gb2⟩ := and_e gb1
  obtain ⟨ga3, gb3⟩ := and_e gb2
  obtain ⟨ga4, gb4⟩ := and_e gb3
  obtain ⟨ga5, gb5⟩ := and_e gb4
  obtain ⟨ga6, gb6⟩ := and_e gb5
  obtain ⟨w0, w1, w2, w3, w4, w5, rfl⟩ : ∃ w0 w1 w2 w3 w4 w5 : Value, args = #[w0, w1, w2, w3, w4, w5] := by
    have hs : args.size = 6 := by simpa [Cond.value, given_1] using ga1
    obtain ⟨L⟩ := args
    match L, hs with
    | [w0, w1, w2, w3, w4, w5], _ => exact ⟨w0, w1, w2, w3, w4, w5, rfl⟩
  have hw := fun d (hd : d ∈ tables_1) => atoms_spec (ws := Jvm.Cond.code x code maxLocals ret :: tables_1) hat d (List.mem_cons_of_mem _ hd)
  obtain ⟨i0, ei0⟩ := is_v ga2
  obtain rfl : w0 = (.int i0) := Option.some.inj ei0
  obtain ⟨i1, ei1⟩ := is_v ga3
  obtain rfl : w1 = (.int i1) := Option.some.inj ei1
  obtain ⟨i2, ei2⟩ := is_v ga4
  obtain rfl : w2 = (.int i2) := Option.some.inj ei2
  obtain ⟨i3, ei3⟩ := is_v ga5
  obtain rfl : w3 = (.int i3) := Option.some.inj ei3
  obtain ⟨i4, ei4⟩ := is_v ga6
  obtain rfl : w4 = (.int i4) := Option.some.inj ei4
  obtain ⟨i5, ei5⟩ := is_v gb6
  obtain rfl : w5 = (.int i5) := Option.some.inj ei5
  obtain ⟨n, o, h1, h2, h3, _, L, rfl, ⟨rfl, N⟩, hq⟩ := own_rm0 l s _ hw tables_1 i0 i1 i2 i3 i4 i5 s.heap s.heap.size (Nat.le_refl _) p e ha hc hk s m _ below hf ((Spec.applies_iff_loose hf).mp happ).1 ⟨rfl, State.Warmed39.refl s, rfl⟩ trivial
  refine ⟨n, _, h1, h2, h3, hpost _ _ _ _ _ _ ⟨Cond.after_iff.mpr rfl, Cond.after_iff.mpr (eq_i res_at (Term.int_eval (1)) rfl), trivial⟩ ⟨hq.1, hq.2.1, (hq.2.2.sift fun y hy => Or.inr (N y hy)).mono (by decide) (by decide)⟩⟩
theorem main_1_1 : Claimed_1_1 := comes_1 fun _ _ _ _ _ _ h hF => ⟨h.1, hF⟩
theorem main_1_2 : Claimed_1_2 := comes_1 fun _ _ _ _ _ _ h hF => ⟨h.2.1, hF⟩
end Jvm.Pilot.@@N@@
namespace Jvm.Pilot.@@N@@
open Jvm Jvm.ClassFile Sem Op Lib Jvm.Free Jvm.Stand Jvm.Pilot.@@N@@.Jvm.D
/-! MADE BY PROGRAM (witnessworld.py) out of the Statement's table words and the real class files: 11 classes; the members and pool entries that the words name. The judged class is class 1, her method 1. -/
namespace start1
open Jvm.ClassFile
def u (s : String) : CpInfo := .utf8 (stringToUtf16 s)
/-- a pool by its gaps: so many unusable entries, then the entry; so many at the end -/
def gap : Nat → List CpInfo → List CpInfo
  | 0, r => r
  | n + 1, r => .unusable :: gap n r
def poolList (es : List (Nat × CpInfo)) (last : Nat) : List CpInfo := es.foldr (fun e r => gap e.1 (e.2 :: r)) (gap last [])
def pool (es : List (Nat × CpInfo)) (last : Nat) : Array CpInfo := ⟨poolList es last⟩
def fileOf (pool : Array CpInfo) (this : Nat) (attrs : Array Attribute := #[]) (ms : Array MethodInfo := #[]) (fl : Nat := 33) (sup : Nat := 0) (ifs : Array Nat := #[]) (fds : Array FieldInfo := #[]) : ClassFile where
  minorVersion := 0
  majorVersion := 65
  constantPool := pool
  accessFlags := fl
  thisClass := this
  superClass := sup
  interfaces := ifs
  fields := fds
  methods := ms
  attributes := attrs
def plain (name : String) (sup : Option ClassId) : Class where
  name := name
  kind := .ordinary
  loader := none
  accessFlags := 33
  super := sup
  interfaces := #[]
  cf := none
  fields := #[]
  methods := #[]
  instanceTypes := #[]
  staticTypes := #[]
  resolved := #[]
  callSites := []
  init := .initialized
  statics := none
  mirror := none

def pool0 : Array CpInfo := pool [(5, u "<init>"), (0, u "()V"), (1, .class_ 10), (1, u "java/lang/Object")] 113

def k0c0 : Code := { maxStack := 0, maxLocals := 1, code := object_method_1_code, exceptionTable := #[], attributes := #[] }
def k0m0 : Method := { name := "<init>", desc := "()V", sig := { parameters := [], returnType := none }, accessFlags := 1, code := some k0c0 }
/-- java/lang/Object -/
def k0 : Class := { plain "java/lang/Object" none with
  accessFlags := 33
  interfaces := #[]
  cf := some (fileOf pool0 8 #[] #[{ accessFlags := 1, nameIndex := 5, descriptorIndex := 6, attributes := #[] }] 33 0 #[] #[])
  fields := #[]
  methods := #[k0m0]
  instanceTypes := #[]
  staticTypes := #[]
  resolved := Array.replicate 124 none
  statics := none }

def pool1 : Array CpInfo := pool [(2, .class_ 4), (1, u "java/lang/Object"), (0, u "<init>"), (0, u "()V"), (0, .integer 2147483647), (0, .methodref 9 10), (0, .class_ 11), (0, .nameAndType 12 13), (0, u "java/lang/Math"), (0, u "max"), (0, u "(II)I"), (0, .long 2), (3, .long 18446744071562067968), (1, .long 2147483647), (1, .class_ 23), (0, u "com/example/rasterline/rasterline/ReadArea$Axis"), (0, .methodref 22 25), (0, .nameAndType 5 26), (0, u "(IIII)V"), (0, .methodref 22 28), (0, .nameAndType 29 30), (0, u "destinationOf"), (0, u "(I)I"), (0, .class_ 32), (0, u "com/example/rasterline/rasterline/AxisDestinationOfPinLaw"), (2, u "law"), (0, u "(IIIIII)Z")] 7

def k1m0 : Method := { name := "<init>", desc := "()V", sig := { parameters := [], returnType := none }, accessFlags := 2, code := none }
def k1c1 : Code := { maxStack := 6, maxLocals := 19, code := code, exceptionTable := #[], attributes := #[] }
def k1m1 : Method := { name := "law", desc := "(IIIIII)Z", sig := { parameters := [.int, .int, .int, .int, .int, .int], returnType := some .boolean }, accessFlags := 9, code := some k1c1 }
/-- com/example/rasterline/rasterline/AxisDestinationOfPinLaw -/
def k1 : Class := { plain "com/example/rasterline/rasterline/AxisDestinationOfPinLaw" (some 0) with
  accessFlags := 49
  interfaces := #[]
  cf := some (fileOf pool1 31 #[] #[{ accessFlags := 2, nameIndex := 5, descriptorIndex := 6, attributes := #[] }, { accessFlags := 9, nameIndex := 35, descriptorIndex := 36, attributes := #[] }] 49 2 #[] #[])
  fields := #[]
  methods := #[k1m0, k1m1]
  instanceTypes := #[]
  staticTypes := #[]
  resolved := Array.replicate 44 none
  statics := none }

def pool2 : Array CpInfo := pool [(1, .class_ 2), (0, u "java/lang/Math"), (1, .class_ 6), (1, u "java/lang/Object"), (0, u "<init>"), (0, u "()V"), (89, .class_ 100), (1, u "java/lang/Math$RandomNumberGeneratorHolder"), (71, u "negativeZeroFloatBits"), (0, u "J"), (2, u "negativeZeroDoubleBits"), (21, u "max"), (46, u "$assertionsDisabled"), (0, u "Z"), (88, u "(II)I"), (2, u "twoToTheDoubleScaleDown"), (0, u "D"), (4, u "twoToTheDoubleScaleUp"), (9, u "E"), (3, u "PI"), (2, u "TAU"), (2, u "DEGREES_TO_RADIANS"), (0, u "RADIANS_TO_DEGREES")] 94

def k2m0 : Method := { name := "<init>", desc := "()V", sig := { parameters := [], returnType := none }, accessFlags := 2, code := none }
def k2c1 : Code := { maxStack := 2, maxLocals := 2, code := jdk_29_method_65_code, exceptionTable := #[], attributes := #[] }
def k2m1 : Method := { name := "max", desc := "(II)I", sig := { parameters := [.int, .int], returnType := some .int }, accessFlags := 9, code := some k2c1 }
/-- java/lang/Math -/
def k2 : Class := { plain "java/lang/Math" (some 0) with
  accessFlags := 49
  interfaces := #[]
  cf := some (fileOf pool2 1 #[.nestMembers #[98]] #[{ accessFlags := 2, nameIndex := 7, descriptorIndex := 8, attributes := #[] }, { accessFlags := 9, nameIndex := 198, descriptorIndex := 335, attributes := #[] }] 49 4 #[] #[{ accessFlags := 25, nameIndex := 354, descriptorIndex := 339, attributes := #[] }, { accessFlags := 25, nameIndex := 358, descriptorIndex := 339, attributes := #[] }, { accessFlags := 25, nameIndex := 361, descriptorIndex := 339, attributes := #[] }, { accessFlags := 26, nameIndex := 364, descriptorIndex := 339, attributes := #[] }, { accessFlags := 26, nameIndex := 365, descriptorIndex := 339, attributes := #[] }, { accessFlags := 26, nameIndex := 172, descriptorIndex := 173, attributes := #[] }, { accessFlags := 26, nameIndex := 176, descriptorIndex := 173, attributes := #[] }, { accessFlags := 8, nameIndex := 344, descriptorIndex := 339, attributes := #[] }, { accessFlags := 8, nameIndex := 338, descriptorIndex := 339, attributes := #[] }, { accessFlags := 4120, nameIndex := 245, descriptorIndex := 246, attributes := #[] }])
  fields := #[{ name := "E", type := .double, accessFlags := 25, slot := 0, constantValue := 0 }, { name := "PI", type := .double, accessFlags := 25, slot := 1, constantValue := 0 }, { name := "TAU", type := .double, accessFlags := 25, slot := 2, constantValue := 0 }, { name := "DEGREES_TO_RADIANS", type := .double, accessFlags := 26, slot := 3, constantValue := 0 }, { name := "RADIANS_TO_DEGREES", type := .double, accessFlags := 26, slot := 4, constantValue := 0 }, { name := "negativeZeroFloatBits", type := .long, accessFlags := 26, slot := 5, constantValue := 0 }, { name := "negativeZeroDoubleBits", type := .long, accessFlags := 26, slot := 6, constantValue := 0 }, { name := "twoToTheDoubleScaleUp", type := .double, accessFlags := 8, slot := 7, constantValue := 0 }, { name := "twoToTheDoubleScaleDown", type := .double, accessFlags := 8, slot := 8, constantValue := 0 }, { name := "$assertionsDisabled", type := .boolean, accessFlags := 4120, slot := 9, constantValue := 0 }]
  methods := #[k2m0, k2m1]
  instanceTypes := #[]
  staticTypes := #[.double, .double, .double, .double, .double, .long, .long, .double, .double, .boolean]
  resolved := Array.replicate 460 none
  statics := none }

def pool3 : Array CpInfo := pool [(1, .methodref 2 3), (0, .class_ 4), (0, .nameAndType 5 6), (0, u "java/lang/Object"), (0, u "<init>"), (0, u "()V"), (0, .class_ 8), (0, u "java/lang/Record")] 13

def k3c0 : Code := { maxStack := 1, maxLocals := 1, code := jdk_30_method_1_code, exceptionTable := #[], attributes := #[] }
def k3m0 : Method := { name := "<init>", desc := "()V", sig := { parameters := [], returnType := none }, accessFlags := 4, code := some k3c0 }
/-- java/lang/Record -/
def k3 : Class := { plain "java/lang/Record" (some 0) with
  accessFlags := 1057
  interfaces := #[]
  cf := some (fileOf pool3 7 #[] #[{ accessFlags := 4, nameIndex := 5, descriptorIndex := 6, attributes := #[] }] 1057 2 #[] #[])
  fields := #[]
  methods := #[k3m0]
  instanceTypes := #[]
  staticTypes := #[]
  resolved := Array.replicate 22 none
  statics := none }

def pool4 : Array CpInfo := pool [(1, .methodref 2 3), (0, .class_ 4), (0, .nameAndType 5 6), (0, u "java/lang/Record"), (0, u "<init>"), (0, u "()V"), (9, .fieldref 17 18), (0, .class_ 19), (0, .nameAndType 20 21), (0, u "com/example/rasterline/rasterline/ReadArea$Axis"), (0, u "first"), (0, u "I"), (0, .fieldref 17 23), (0, .nameAndType 24 21), (0, u "period"), (0, .fieldref 17 26), (0, .nameAndType 27 21), (0, u "count"), (0, .fieldref 17 29), (0, .nameAndType 30 21), (0, u "destination"), (2, u "(IIII)V"), (38, u "destinationOf"), (0, u "(I)I"), (8, .class_ 83), (0, u "com/example/rasterline/rasterline/ReadArea")] 31

def k4c0 : Code := { maxStack := 4, maxLocals := 5, code := prog_20_method_1_code, exceptionTable := #[], attributes := #[] }
def k4m0 : Method := { name := "<init>", desc := "(IIII)V", sig := { parameters := [.int, .int, .int, .int], returnType := none }, accessFlags := 1, code := some k4c0 }
def k4c1 : Code := { maxStack := 5, maxLocals := 4, code := prog_20_method_4_code, exceptionTable := #[], attributes := #[] }
def k4m1 : Method := { name := "destinationOf", desc := "(I)I", sig := { parameters := [.int], returnType := some .int }, accessFlags := 1, code := some k4c1 }
/-- com/example/rasterline/rasterline/ReadArea$Axis -/
def k4 : Class := { plain "com/example/rasterline/rasterline/ReadArea$Axis" (some 3) with
  accessFlags := 49
  interfaces := #[]
  cf := some (fileOf pool4 17 #[.nestHost 82] #[{ accessFlags := 1, nameIndex := 5, descriptorIndex := 33, attributes := #[] }, { accessFlags := 1, nameIndex := 72, descriptorIndex := 73, attributes := #[] }] 49 2 #[] #[{ accessFlags := 18, nameIndex := 20, descriptorIndex := 21, attributes := #[] }, { accessFlags := 18, nameIndex := 24, descriptorIndex := 21, attributes := #[] }, { accessFlags := 18, nameIndex := 27, descriptorIndex := 21, attributes := #[] }, { accessFlags := 18, nameIndex := 30, descriptorIndex := 21, attributes := #[] }])
  fields := #[{ name := "first", type := .int, accessFlags := 18, slot := 0, constantValue := 0 }, { name := "period", type := .int, accessFlags := 18, slot := 1, constantValue := 0 }, { name := "count", type := .int, accessFlags := 18, slot := 2, constantValue := 0 }, { name := "destination", type := .int, accessFlags := 18, slot := 3, constantValue := 0 }]
  methods := #[k4m0, k4m1]
  instanceTypes := #[.int, .int, .int, .int]
  staticTypes := #[]
  resolved := Array.replicate 115 none
  statics := none }

def pool5 : Array CpInfo := pool [(1, u "java/lang/Cloneable"), (0, .class_ 1), (0, u "java/lang/Object"), (0, .class_ 3)] 3

/-- java/lang/Cloneable -/
def k5 : Class := { plain "java/lang/Cloneable" (some 0) with
  accessFlags := 1537
  interfaces := #[]
  cf := some (fileOf pool5 2 #[] #[] 1537 4 #[] #[])
  fields := #[]
  methods := #[]
  instanceTypes := #[]
  staticTypes := #[]
  resolved := Array.replicate 8 none
  statics := none }

def pool6 : Array CpInfo := pool [(1, u "java/io/Serializable"), (0, .class_ 1), (0, u "java/lang/Object"), (0, .class_ 3)] 3

/-- java/io/Serializable -/
def k6 : Class := { plain "java/io/Serializable" (some 0) with
  accessFlags := 1537
  interfaces := #[]
  cf := some (fileOf pool6 2 #[] #[] 1537 4 #[] #[])
  fields := #[]
  methods := #[]
  instanceTypes := #[]
  staticTypes := #[]
  resolved := Array.replicate 8 none
  statics := none }

/-- the primitive byte -/
def k7 : Class := { plain "byte" none with kind := .primitive 'B', accessFlags := 0x411 }
/-- [B -/
def k8 : Class := { plain "[B" (some 0) with kind := .array 7 .byte, interfaces := #[5, 6], accessFlags := 1041 }

/-- the primitive int -/
def k9 : Class := { plain "int" none with kind := .primitive 'I', accessFlags := 0x411 }
/-- [I -/
def k10 : Class := { plain "[I" (some 0) with kind := .array 9 .int, interfaces := #[5, 6], accessFlags := 1041 }

def heap : Heap := #[]
def classes : Array Class := #[k0, k1, k2, k3, k4, k5, k6, k7, k8, k9, k10]
def interned : List (Array UInt16 × Addr) := []
def slotsUsed : Nat := 0
def theMethod : MethodId := ⟨1, 1⟩
def args0 : Array Value := #[.int 5, .int 7, .int 9, .int 11, .int 3, .int 8]
def aboutOver (below : List Frame) : State where
  vm := { classes := classes, interned := interned.toArray }
  heap := heap
  slotsUsed := slotsUsed
  threads := #[{ frames := .invoking theMethod args0 :: below }]
def below0 : List Frame := [.native { method := ⟨0, 0⟩, args := #[] }]
def about1 : State := aboutOver below0
def p0 : Program := .bare "" "" ""
def e0 : Env := launch0.env 0 0 0
theorem w_frames : about1.frames = Frame.invoking theMethod args0 :: below0 := rfl
set_option maxRecDepth 65536 in
theorem w_args : argsFit about1.vm theMethod args0 = true := by decide +kernel
set_option maxRecDepth 65536 in
theorem w_heap : heapFits about1 = true := by decide +kernel
set_option maxRecDepth 65536 in
theorem w_runnable : about1.curStatus? = some .runnable := by decide +kernel
set_option maxRecDepth 65536 in
theorem w_alone : about1.alone = true := by decide +kernel
set_option maxRecDepth 65536 in
theorem w_named : about1.methodNamed? x = some theMethod := by decide +kernel
set_option maxRecDepth 65536 in
theorem w_hears : about1.hears theMethod below0 = true := by decide +kernel
set_option maxRecDepth 65536 in
theorem w_ripe : about1.ripe theMethod args0 below0 = true := by decide +kernel
theorem w_running : about1.status = .running := rfl
set_option maxRecDepth 65536 in
theorem w_room : about1.hasRoom e0.platform room_1 = true :=
  launch0.hasRoom_least _ room_1 (by decide +kernel) (by decide +kernel) (by decide +kernel) (by decide +kernel) (by decide +kernel) (by decide +kernel)
theorem allAtoms_all (ts : List Jvm.Cond) (a : Array Jvm.Value) (st : Jvm.State) : (allAtoms ts).before a st = ts.all (fun c => c.before a st) := by
  induction ts with
  | nil => rfl
  | cons c t ih =>
    show (Jvm.Cond.and c (allAtoms t)).before a st = _
    rw [Jvm.Cond.before_and, ih, List.all_cons]
def words1 : List Jvm.Cond := Jvm.Cond.code x code maxLocals ret :: tables_1
/-- a 'code' word, met by the world's own term for the bytes: nothing is compared byte by byte -/
theorem code_word {y : MethodName} {bytes : ByteArray} {mx : Nat} {rt : Option FieldType} {a : Array Value} {s : State} {m : MethodId} {meth : Method} {c : Code} (h1 : s.methodNamed? y = some m) (h2 : s.vm.method? m = some meth) (h3 : meth.code = some c) (h4 : c.code = bytes)
    (h5 : (c.maxLocals == mx && c.exceptionTable.isEmpty && decide (c.maxStack ≤ mostOperands) && decide (meth.sig.returnType = rt) && !meth.locks && decide (parseMethodDescriptor y.desc = some meth.sig)) = true) : (Jvm.Cond.code y bytes mx rt).before a s = true := by
  simp only [Bool.and_eq_true, beq_iff_eq, Bool.not_eq_true', decide_eq_true_eq] at h5
  obtain ⟨⟨⟨⟨⟨g1, g2⟩, g3⟩, g4⟩, g5⟩, g6⟩ := h5
  simp [Cond.before, Cond.holds, Cond.value, h1, h2, h3, h4, g1, g2, g3, g4, g5, g6]
def isCode : Jvm.Cond → Bool
  | .code _ _ _ _ => true
  | _ => false
theorem all_split {L : List Jvm.Cond} {P : Jvm.Cond → Bool} (h1 : L.all (fun c => isCode c || P c) = true) (h2 : ∀ c ∈ L.filter isCode, P c = true) : L.all P = true := by
  refine List.all_eq_true.mpr fun c hc => ?_
  have h := List.all_eq_true.mp h1 c hc
  rcases Bool.eq_false_or_eq_true (isCode c) with hi | hi
  · exact h2 c (List.mem_filter.mpr ⟨hc, hi⟩)
  · simpa [hi] using h
set_option maxRecDepth 65536 in
theorem w_c0 : (Jvm.Cond.code x code maxLocals ret).before args0 about1 = true := code_word (m := ⟨1, 1⟩) (meth := k1m1) (c := k1c1) (by decide +kernel) rfl rfl rfl (by decide +kernel)
set_option maxRecDepth 65536 in
theorem w_c1 : (Jvm.Cond.code ({ cls := "java/lang/Math", name := "max", desc := "(II)I" } : Jvm.MethodName) jdk_29_method_65_code (2 : Nat) (Option.some Jvm.ClassFile.FieldType.int)).before args0 about1 = true := code_word (m := ⟨2, 1⟩) (meth := k2m1) (c := k2c1) (by decide +kernel) rfl rfl rfl (by decide +kernel)
set_option maxRecDepth 65536 in
theorem w_c2 : (Jvm.Cond.code ({ cls := "com/example/rasterline/rasterline/ReadArea$Axis", name := "<init>", desc := "(IIII)V" } : Jvm.MethodName) prog_20_method_1_code (5 : Nat) (Option.none : Option Jvm.ClassFile.FieldType)).before args0 about1 = true := code_word (m := ⟨4, 0⟩) (meth := k4m0) (c := k4c0) (by decide +kernel) rfl rfl rfl (by decide +kernel)
set_option maxRecDepth 65536 in
theorem w_c3 : (Jvm.Cond.code ({ cls := "java/lang/Record", name := "<init>", desc := "()V" } : Jvm.MethodName) jdk_30_method_1_code (1 : Nat) (Option.none : Option Jvm.ClassFile.FieldType)).before args0 about1 = true := code_word (m := ⟨3, 0⟩) (meth := k3m0) (c := k3c0) (by decide +kernel) rfl rfl rfl (by decide +kernel)
set_option maxRecDepth 65536 in
theorem w_c4 : (Jvm.Cond.code ({ cls := "java/lang/Object", name := "<init>", desc := "()V" } : Jvm.MethodName) object_method_1_code (1 : Nat) (Option.none : Option Jvm.ClassFile.FieldType)).before args0 about1 = true := code_word (m := ⟨0, 0⟩) (meth := k0m0) (c := k0c0) (by decide +kernel) rfl rfl rfl (by decide +kernel)
set_option maxRecDepth 65536 in
theorem w_c5 : (Jvm.Cond.code ({ cls := "com/example/rasterline/rasterline/ReadArea$Axis", name := "destinationOf", desc := "(I)I" } : Jvm.MethodName) prog_20_method_4_code (4 : Nat) (Option.some Jvm.ClassFile.FieldType.int)).before args0 about1 = true := code_word (m := ⟨4, 1⟩) (meth := k4m1) (c := k4c1) (by decide +kernel) rfl rfl rfl (by decide +kernel)
def codes1 : List Jvm.Cond := [Jvm.Cond.code x code maxLocals ret, Jvm.Cond.code ({ cls := "java/lang/Math", name := "max", desc := "(II)I" } : Jvm.MethodName) jdk_29_method_65_code (2 : Nat) (Option.some Jvm.ClassFile.FieldType.int), Jvm.Cond.code ({ cls := "com/example/rasterline/rasterline/ReadArea$Axis", name := "<init>", desc := "(IIII)V" } : Jvm.MethodName) prog_20_method_1_code (5 : Nat) (Option.none : Option Jvm.ClassFile.FieldType), Jvm.Cond.code ({ cls := "java/lang/Record", name := "<init>", desc := "()V" } : Jvm.MethodName) jdk_30_method_1_code (1 : Nat) (Option.none : Option Jvm.ClassFile.FieldType), Jvm.Cond.code ({ cls := "java/lang/Object", name := "<init>", desc := "()V" } : Jvm.MethodName) object_method_1_code (1 : Nat) (Option.none : Option Jvm.ClassFile.FieldType), Jvm.Cond.code ({ cls := "com/example/rasterline/rasterline/ReadArea$Axis", name := "destinationOf", desc := "(I)I" } : Jvm.MethodName) prog_20_method_4_code (4 : Nat) (Option.some Jvm.ClassFile.FieldType.int)]
set_option maxRecDepth 65536 in
theorem codes_eq : words1.filter isCode = codes1 := rfl
theorem w_codes : ∀ c ∈ words1.filter isCode, c.before args0 about1 = true := by
  rw [codes_eq]
  intro c hc
  simp only [codes1, List.mem_cons, List.not_mem_nil, or_false] at hc
  rcases hc with rfl | rfl | rfl | rfl | rfl | rfl
  · exact w_c0
  · exact w_c1
  · exact w_c2
  · exact w_c3
  · exact w_c4
  · exact w_c5
set_option maxRecDepth 65536 in
theorem w_t1 : (words1.take 24).all (fun c => isCode c || c.before args0 about1) = true := by decide +kernel
set_option maxRecDepth 65536 in
theorem w_t2 : (words1.drop 24).all (fun c => isCode c || c.before args0 about1) = true := by decide +kernel
theorem w_tables : (allAtoms (Jvm.Cond.code x code maxLocals ret :: tables_1)).before args0 about1 = true := by
  rw [allAtoms_all]
  show words1.all (fun c => c.before args0 about1) = true
  refine all_split ?_ w_codes
  rw [← List.take_append_drop 24 words1, List.all_append, w_t1, w_t2]
  rfl
set_option maxRecDepth 65536 in
theorem w_case : (Jvm.Cond.and given_1 narrow_1).before args0 about1 = true := by decide +kernel
theorem w_applies : (headSpec (Jvm.Cond.code x code maxLocals ret :: tables_1) room_1).applies x e0.platform about1 = true :=
  (Spec.applies_iff w_frames).mpr ⟨w_running, w_runnable, w_alone, w_named, w_hears, w_ripe, w_room, w_tables⟩
theorem atStart : AtStart classFile x code maxLocals ret World_1 tables_1 room_1 Calls_1 rest_1 Pre_1 launch0 p0 e0 about1 theMethod args0 below0 :=
  ⟨lists_1, trivial, launch0.admits_env _ _ _, launch0.least_env, fairChoices_fair.cas, fairChoices_fair.clock, w_frames, w_args, w_heap, w_applies, trivial, trivial, w_case⟩
end start1
theorem witness_1 : WitnessClaimed_1 := ⟨start1.p0, start1.e0, start1.about1, start1.theMethod, start1.args0, start1.below0, start1.atStart⟩
end Jvm.Pilot.@@N@@
