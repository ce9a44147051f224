import JvmDerived
import JvmDerived.Pilot.@@N@@Statement
import JvmDerived.Pilot.@@N@@Code
set_option linter.unusedVariables false
set_option linter.unusedSimpArgs false
namespace Jvm.RoadKit
open Sem ClassFile Op Lib Jvm.Stand Jvm.Free Jvm.LawKit
section New
variable {p : Program} {l : Launch} {e : Env} {R : Room} {s : State} {m : MethodId} {args : Array Value} {below : List Frame} {meth : Method} {c : Code} {T : State} {locs : List Loc} {cells slots : Nat}
theorem retI (X : Stand p l e R s m args below meth c T locs cells slots) (hx : p.tables.exec = Jvm.exec) {pc : Nat} {Ls : Array Slot} {z : Int32} {rest : List Value} (hret : meth.sig.returnType = some .int) (hd : decode c.code pc = .ok (.ireturn, 1)) {fs : List Frame}
    (hl : ∀ (f : JFrame) (acts : List Action), f.method = m → f.locked = none → f.entered = [] → (doReturn e (T.setTop f) acts (some (.int z))).1 = T.setFrames fs) : Steps p.tables e below (T.setTop (mkF m pc Ls (.int z :: rest))) (T.setFrames fs) := by
  have hm' : T.vm.method? m = some meth := X.method'
  have hn : narrow .int (.int z) = .int z := rfl
  show Steps p.tables e below (T.setTop { method := m, pc := pc, locals := Ls, stack := _ :: rest, locked := none }) _
  jvm_step X.here [X.here.top, hx, hd, hm', hret, hn]
  first | (intro acts; rw [hl _ acts rfl rfl rfl]) | rw [hl _ _ rfl rfl rfl]
  exact Steps.refl _
theorem retJ (X : Stand p l e R s m args below meth c T locs cells slots) (hx : p.tables.exec = Jvm.exec) {pc : Nat} {Ls : Array Slot} {z : Int64} {rest : List Value} (hret : meth.sig.returnType = some .long) (hd : decode c.code pc = .ok (.lreturn, 1)) {fs : List Frame}
    (hl : ∀ (f : JFrame) (acts : List Action), f.method = m → f.locked = none → f.entered = [] → (doReturn e (T.setTop f) acts (some (.long z))).1 = T.setFrames fs) : Steps p.tables e below (T.setTop (mkF m pc Ls (.long z :: rest))) (T.setFrames fs) := by
  have hm' : T.vm.method? m = some meth := X.method'
  show Steps p.tables e below (T.setTop { method := m, pc := pc, locals := Ls, stack := _ :: rest, locked := none }) _
  jvm_step X.here [X.here.top, hx, hd, hm', hret, narrow]
  first | (intro acts; rw [hl _ acts rfl rfl rfl]) | rw [hl _ _ rfl rfl rfl]
  exact Steps.refl _
theorem retA (X : Stand p l e R s m args below meth c T locs cells slots) (hx : p.tables.exec = Jvm.exec) {pc : Nat} {Ls : Array Slot} {z : Value} {t : FieldType} {rest : List Value} (hret : meth.sig.returnType = some t) (ht : t.isReference = true) (hz : z.isRef = true) (hd : decode c.code pc = .ok (.areturn, 1)) {fs : List Frame}
    (hl : ∀ (f : JFrame) (acts : List Action), f.method = m → f.locked = none → f.entered = [] → (doReturn e (T.setTop f) acts (some z)).1 = T.setFrames fs) : Steps p.tables e below (T.setTop (mkF m pc Ls (z :: rest))) (T.setFrames fs) := by
  have hm' : T.vm.method? m = some meth := X.method'
  show Steps p.tables e below (T.setTop { method := m, pc := pc, locals := Ls, stack := _ :: rest, locked := none }) _
  jvm_step X.here [X.here.top, hx, hd, hm', hret, hz, ht]
  first | (intro acts; rw [hl _ acts rfl rfl rfl]) | rw [hl _ _ rfl rfl rfl]
  exact Steps.refl _
/-- what a body's contract owes from a state on -/
def Owe (p : Program) (e : Env) (below : List Frame) (first : State) (ck sk : Nat) (Q : Option Value → Heap → List Loc → Prop) (T : State) (g : JFrame) : Prop :=
  ∃ s₂ o, Steps p.tables e below (T.setTop g) s₂ ∧ s₂.status = .running ∧ Ended s₂ below o ∧ ∃ v L, o = .returned v ∧ Q v s₂.heap L ∧ FrameEnd first o s₂ L ck sk
theorem Owe.step {first : State} {ck sk : Nat} {Q : Option Value → Heap → List Loc → Prop} {T T' : State} {g g' : JFrame} (h : ∀ t, Steps p.tables e below (T'.setTop g') t → Steps p.tables e below (T.setTop g) t)
    (k : Owe p e below first ck sk Q T' g') : Owe p e below first ck sk Q T g := by
  obtain ⟨s₂, o, h1, h2⟩ := k
  exact ⟨s₂, o, h _ h1, h2⟩
theorem Owe.ret {ck sk : Nat} {Q : Option Value → Heap → List Loc → Prop} {g : JFrame} (X : Stand p l e R s m args below meth c T locs cells slots) (hlk : meth.locks = false) {v : Option Value} (hv : meth.sig.returnType = none → v = none)
    (hst : ∀ fs, (∀ (f : JFrame) (acts : List Action), f.method = m → f.locked = none → f.entered = [] → (doReturn e (T.setTop f) acts v).1 = T.setFrames fs) → Steps p.tables e below (T.setTop g) (T.setFrames fs))
    (hQ : Q v T.heap locs) (hc : cells ≤ ck) (hs : slots ≤ sk) : Owe p e below s ck sk Q T g := by
  obtain ⟨fs, hr, hrun, hended, hW, hsame⟩ := X.leave (v := v) hv hlk
  exact ⟨_, _, hst fs hr, hrun, hended, _, _, rfl, hQ, ⟨_, rfl⟩, hW, hsame.mono hc hs⟩
/-- a body that writes nothing and makes nothing: it returns w -/
def QP (w : Value) (h0 : Heap) (n0 : Nat) (v : Option Value) (h : Heap) (L : List Loc) : Prop := v = some w ∧ Fr n0 L ∧ h = h0
/-- .. and returns nothing -/
def QN (h0 : Heap) (n0 : Nat) (v : Option Value) (h : Heap) (L : List Loc) : Prop := v = none ∧ Fr n0 L ∧ h = h0
/-- the law itself -/
def QL (w : Value) (n0 : Nat) (v : Option Value) (h : Heap) (L : List Loc) : Prop := v = some w ∧ Fr n0 L
theorem Owe.cast {first : State} {ck sk n0 : Nat} {w w' : Int32} {g : JFrame} (q : w' = w) (k : Owe p e below first ck sk (QL (.int w') n0) T g) : Owe p e below first ck sk (QL (.int w) n0) T g := q ▸ k
end New
end Jvm.RoadKit
namespace Jvm.RoadKit
open Sem ClassFile Op Lib Jvm.Stand Jvm.Free Jvm.LawKit
section Arrays
variable {p : Program} {l : Launch} {e : Env} {R : Room} {s : State} {m : MethodId} {args : Array Value} {below : List Frame} {meth : Method} {c : Code} {T : State} {locs : List Loc} {cells slots : Nat}
variable {Z : State} {h h' : Heap} {a b : Addr} {ty : FieldType} {n sl : Nat} {f : Nat → Value} {v : Value} {ws : List Addr}
/-- an array of n places; place j holds f j -/
def AV (Z : State) (h : Heap) (a : Addr) (ty : FieldType) (n : Nat) (f : Nat → Value) : Prop := ∃ c : Cell, Arr Z h a c ty ∧ c.slots.size = n ∧ ∀ j, j < n → c.slots[j]? = some (f j)
abbrev AI (Z : State) (h : Heap) (a : Addr) (ty : FieldType) (n : Nat) (f : Nat → Int32) : Prop := AV Z h a ty n (fun k => .int (f k))
abbrev AJ (Z : State) (h : Heap) (a : Addr) (n : Nat) (f : Nat → Int64) : Prop := AV Z h a .long n (fun k => .long (f k))
def own_upd {α : Type} (f : Nat → α) (j : Nat) (x : α) : Nat → α := fun k => if k = j then x else f k
theorem own_upd_same {α : Type} (f : Nat → α) (j : Nat) (x : α) : own_upd f j x j = x := if_pos rfl
theorem own_upd_other {α : Type} (f : Nat → α) (j k : Nat) (x : α) (q : k ≠ j) : own_upd f j x k = f k := if_neg q
theorem AV.lt (F : AV Z h a ty n f) : a < h.size := by obtain ⟨c, A, -⟩ := F; exact A.lt
theorem AV.ext (F : AV Z h a ty n f) (E : Ext h h') : AV Z h' a ty n f := by obtain ⟨c, A, r⟩ := F; exact ⟨c, A.ext E, r⟩
theorem AV.other (F : AV Z h b ty n f) (W : Wr h h' a sl v) (q : b ≠ a) : AV Z h' b ty n f := by obtain ⟨c, A, r⟩ := F; exact ⟨c, A.other W q, r⟩
theorem AV.keep (F : AV Z h a ty n f) (K : Keep h h' ws) (q : a ∉ ws) : AV Z h' a ty n f := by obtain ⟨c, A, r⟩ := F; exact ⟨c, ⟨K.2.1 a c A.1 q, A.2⟩, r⟩
theorem AV.congr {f' : Nat → Value} (F : AV Z h a ty n f) (q : ∀ k, k < n → f k = f' k) : AV Z h a ty n f' := by obtain ⟨c, A, S, H⟩ := F; exact ⟨c, A, S, fun k hk => by rw [← q k hk]; exact H k hk⟩
theorem AV.new {k : ClassId} {z : Int32} (A : Arr Z h a (newA k ty z) ty) (e : z.toNatClampNeg = n) : AV Z h a ty n (fun _ => defaultValue ty) := by
  subst e
  exact ⟨_, A, sz_new _ _ _, fun j hj => by simp [newA, hj]⟩
theorem AV.set {j : Nat} (F : AV Z h a ty n f) (W : Wr h h' a j v) : AV Z h' a ty n (own_upd f j v) := by
  obtain ⟨c, A, S, H⟩ := F
  refine ⟨_, A.same W, by rw [sz_set]; exact S, fun k hk => ?_⟩
  by_cases u : k = j
  · subst u; simp [Cell.setSlot, S, hk, own_upd]
  · have := H k hk
    simp only [Cell.setSlot, own_upd, if_neg u] at this ⊢
    rw [Array.getElem?_setIfInBounds_ne (fun q => u q.symm)]; exact this
theorem AI.set {j : Nat} {g : Nat → Int32} {x : Int32} (F : AI Z h a ty n g) (W : Wr h h' a j (.int x)) : AI Z h' a ty n (own_upd g j x) := (AV.set F W).congr fun k _ => by unfold own_upd; split <;> rfl
theorem AJ.set {j : Nat} {g : Nat → Int64} {x : Int64} (F : AJ Z h a n g) (W : Wr h h' a j (.long x)) : AJ Z h' a n (own_upd g j x) := (AV.set F W).congr fun k _ => by unfold own_upd; split <;> rfl
theorem in_of {c : Cell} {j : Int32} (S : c.slots.size = n) (j0 : ¬ j < 0) (jn : j.toNatClampNeg < n) : ¬ (j < 0 ∨ c.slots.size ≤ j.toNatClampNeg) := by rw [S]; exact fun q => q.elim j0 fun y => absurd jn (Nat.not_lt.mpr y)
theorem ldAI (X : Stand p l e R s m args below meth c T locs cells slots) (hx : p.tables.exec = Jvm.exec) (hZ : Z.Warmed39 s.vm) (eT : T.heap = h) (F : AV Z h a .int n f) {j : Int32} (j0 : ¬ j < 0) (jn : j.toNatClampNeg < n) {g : JFrame} (hg : g.method = m) {rest : List Value} (hs : g.stack = .int j :: .ref a :: rest) (hd : decode c.code g.pc = .ok (.iaload, 1)) (target : State)
    (hr : Steps p.tables e below (T.setTop { g with pc := g.pc + 1, stack := f j.toNatClampNeg :: rest }) target) : Steps p.tables e below (T.setTop g) target := by
  obtain ⟨cl, A, S, H⟩ := F
  exact X.iaload hx (by rw [eT]; exact A.1) (State.isArrayOf_alike hZ.alike A.2.1) A.2.2 (in_of S j0 jn) (H _ jn) hg hs hd target hr
theorem ldAB (X : Stand p l e R s m args below meth c T locs cells slots) (hx : p.tables.exec = Jvm.exec) (hZ : Z.Warmed39 s.vm) (eT : T.heap = h) (F : AV Z h a .byte n f) {j : Int32} (j0 : ¬ j < 0) (jn : j.toNatClampNeg < n) {g : JFrame} (hg : g.method = m) {rest : List Value} (hs : g.stack = .int j :: .ref a :: rest) (hd : decode c.code g.pc = .ok (.baload, 1)) (target : State)
    (hr : Steps p.tables e below (T.setTop { g with pc := g.pc + 1, stack := f j.toNatClampNeg :: rest }) target) : Steps p.tables e below (T.setTop g) target := by
  obtain ⟨cl, A, S, H⟩ := F
  exact X.baloadBytes hx (by rw [eT]; exact A.1) (State.isArrayOf_alike hZ.alike A.2.1) A.2.2 (in_of S j0 jn) (H _ jn) hg hs hd target hr
theorem ldAJ (X : Stand p l e R s m args below meth c T locs cells slots) (hx : p.tables.exec = Jvm.exec) (hZ : Z.Warmed39 s.vm) (eT : T.heap = h) (F : AV Z h a .long n f) {j : Int32} (j0 : ¬ j < 0) (jn : j.toNatClampNeg < n) {g : JFrame} (hg : g.method = m) {rest : List Value} (hs : g.stack = .int j :: .ref a :: rest) (hd : decode c.code g.pc = .ok (.laload, 1)) (target : State)
    (hr : Steps p.tables e below (T.setTop { g with pc := g.pc + 1, stack := f j.toNatClampNeg :: rest }) target) : Steps p.tables e below (T.setTop g) target := by
  obtain ⟨cl, A, S, H⟩ := F
  exact X.laload hx (by rw [eT]; exact A.1) (State.isArrayOf_alike hZ.alike A.2.1) A.2.2 (in_of S j0 jn) (H _ jn) hg hs hd target hr
theorem stAI (X : Stand p l e R s m args below meth c T locs cells slots) (hx : p.tables.exec = Jvm.exec) (hZ : Z.Warmed39 s.vm) (eT : T.heap = h) {f : Nat → Int32} (F : AI Z h a .int n f) {j x : Int32} (j0 : ¬ j < 0) (jn : j.toNatClampNeg < n) {g : JFrame} (hg : g.method = m) {rest : List Value} (hs : g.stack = .int x :: .int j :: .ref a :: rest) (hd : decode c.code g.pc = .ok (.iastore, 1)) :
    ∃ T' h', Stand p l e R s m args below meth c T' (locs ++ [⟨a, j.toNatClampNeg⟩]) cells slots ∧ T'.heap = h' ∧ Wr h h' a j.toNatClampNeg (.int x) ∧ AI Z h' a .int n (own_upd f j.toNatClampNeg x) ∧ ∀ target, Steps p.tables e below (T'.setTop { g with pc := g.pc + 1, stack := rest }) target → Steps p.tables e below (T.setTop g) target := by
  obtain ⟨cl, A, S, H⟩ := id F
  obtain ⟨T', h', X', e', W, st⟩ := stI X hx hZ eT A (in_of S j0 jn) hg hs hd
  exact ⟨T', h', X', e', W, AI.set F W, st⟩
theorem stAB (X : Stand p l e R s m args below meth c T locs cells slots) (hx : p.tables.exec = Jvm.exec) (hZ : Z.Warmed39 s.vm) (eT : T.heap = h) {f : Nat → Int32} (F : AI Z h a .byte n f) {j x : Int32} (j0 : ¬ j < 0) (jn : j.toNatClampNeg < n) {g : JFrame} (hg : g.method = m) {rest : List Value} (hs : g.stack = .int x :: .int j :: .ref a :: rest) (hd : decode c.code g.pc = .ok (.bastore, 1)) :
    ∃ T' h', Stand p l e R s m args below meth c T' (locs ++ [⟨a, j.toNatClampNeg⟩]) cells slots ∧ T'.heap = h' ∧ Wr h h' a j.toNatClampNeg (.int (nar .byte x)) ∧ AI Z h' a .byte n (own_upd f j.toNatClampNeg (nar .byte x)) ∧ ∀ target, Steps p.tables e below (T'.setTop { g with pc := g.pc + 1, stack := rest }) target → Steps p.tables e below (T.setTop g) target := by
  obtain ⟨cl, A, S, H⟩ := id F
  obtain ⟨T', h', X', e', W, st⟩ := stB X hx hZ eT A (in_of S j0 jn) hg hs hd
  exact ⟨T', h', X', e', W, AI.set F W, st⟩
theorem stAC (X : Stand p l e R s m args below meth c T locs cells slots) (hx : p.tables.exec = Jvm.exec) (hZ : Z.Warmed39 s.vm) (eT : T.heap = h) {f : Nat → Int32} (F : AI Z h a .char n f) {j x : Int32} (j0 : ¬ j < 0) (jn : j.toNatClampNeg < n) {g : JFrame} (hg : g.method = m) {rest : List Value} (hs : g.stack = .int x :: .int j :: .ref a :: rest) (hd : decode c.code g.pc = .ok (.castore, 1)) :
    ∃ T' h', Stand p l e R s m args below meth c T' (locs ++ [⟨a, j.toNatClampNeg⟩]) cells slots ∧ T'.heap = h' ∧ Wr h h' a j.toNatClampNeg (.int (nar .char x)) ∧ AI Z h' a .char n (own_upd f j.toNatClampNeg (nar .char x)) ∧ ∀ target, Steps p.tables e below (T'.setTop { g with pc := g.pc + 1, stack := rest }) target → Steps p.tables e below (T.setTop g) target := by
  obtain ⟨cl, A, S, H⟩ := id F
  obtain ⟨T', h', X', e', W, st⟩ := stC X hx hZ eT A (in_of S j0 jn) hg hs hd
  exact ⟨T', h', X', e', W, AI.set F W, st⟩
theorem stAJ (X : Stand p l e R s m args below meth c T locs cells slots) (hx : p.tables.exec = Jvm.exec) (hZ : Z.Warmed39 s.vm) (eT : T.heap = h) {f : Nat → Int64} (F : AJ Z h a n f) {j : Int32} {x : Int64} (j0 : ¬ j < 0) (jn : j.toNatClampNeg < n) {g : JFrame} (hg : g.method = m) {rest : List Value} (hs : g.stack = .long x :: .int j :: .ref a :: rest) (hd : decode c.code g.pc = .ok (.lastore, 1)) :
    ∃ T' h', Stand p l e R s m args below meth c T' (locs ++ [⟨a, j.toNatClampNeg⟩]) cells slots ∧ T'.heap = h' ∧ Wr h h' a j.toNatClampNeg (.long x) ∧ AJ Z h' a n (own_upd f j.toNatClampNeg x) ∧ ∀ target, Steps p.tables e below (T'.setTop { g with pc := g.pc + 1, stack := rest }) target → Steps p.tables e below (T.setTop g) target := by
  obtain ⟨cl, A, S, H⟩ := id F
  obtain ⟨T', h', X', e', W, st⟩ := stJ X hx hZ eT A (in_of S j0 jn) hg hs hd
  exact ⟨T', h', X', e', W, AJ.set F W, st⟩
theorem lenA (X : Stand p l e R s m args below meth c T locs cells slots) (hx : p.tables.exec = Jvm.exec) (hZ : Z.Warmed39 s.vm) (eT : T.heap = h) (F : AV Z h a ty n f) {z : Int32} (hn : n.toInt32 = z) {g : JFrame} (hg : g.method = m) {rest : List Value} (hs : g.stack = .ref a :: rest) (hd : decode c.code g.pc = .ok (.arraylength, 1)) (target : State)
    (hr : Steps p.tables e below (T.setTop { g with pc := g.pc + 1, stack := .int z :: rest }) target) : Steps p.tables e below (T.setTop g) target := by
  obtain ⟨cl, A, S, H⟩ := F
  subst hn
  exact X.arraylength hx (by rw [eT]; exact A.1) (State.isArrayOf_alike hZ.alike A.2.1) hg hs hd target (by rw [S]; exact hr)
end Arrays
end Jvm.RoadKit
namespace Jvm.Pilot.@@N@@
open Jvm Jvm.ClassFile Sem Op Lib Jvm.Free Jvm.Stand Jvm.LawKit Jvm.RoadKit Bundle Jvm.Pilot.@@N@@.Jvm.D
theorem own_irem (x y : Int32) : x - (x / y) * y = x % y := by
  apply Int32.toInt_inj.mp
  have h1 := Int32.le_toInt (x % y)
  have h2 := Int32.toInt_lt (x % y)
  rw [Int32.toInt_sub, Int32.toInt_mul, Int32.toInt_div, Int.bmod_mul_bmod, Int.sub_bmod_bmod, Int.mul_comm (x.toInt.tdiv y.toInt), ← Int.tmod_def, ← Int32.toInt_mod]
  exact Int.bmod_eq_of_le_mul_two (by omega) (by omega)
/-- an index, told by its int -/
theorem own_ix {j : Int32} {n : Nat} (h0 : 0 ≤ j.toInt) (h1 : j.toInt < (n : Int)) : ¬ j < 0 ∧ j.toNatClampNeg < n := by
  rw [Int32.lt_iff_toInt_lt]
  have e0 : (0 : Int32).toInt = 0 := rfl
  have e1 : j.toNatClampNeg = j.toInt.toNat := rfl
  rw [e0, e1]; omega
theorem own_d1_0 : decode method_3_code 0 = .ok (.iload_n 0, 1) := by decide +kernel
theorem own_d1_1 : decode method_3_code 1 = .ok (.iconst 3, 1) := by decide +kernel
theorem own_d1_2 : decode method_3_code 2 = .ok (.iload_n 3, 1) := by decide +kernel
theorem own_d1_3 : decode method_3_code 3 = .ok (.imul, 1) := by decide +kernel
theorem own_d1_4 : decode method_3_code 4 = .ok (.iushr, 1) := by decide +kernel
theorem own_d1_5 : decode method_3_code 5 = .ok (.bipush 7, 2) := by decide +kernel
theorem own_d1_7 : decode method_3_code 7 = .ok (.iand, 1) := by decide +kernel
theorem own_d1_8 : decode method_3_code 8 = .ok (.istore 4, 2) := by decide +kernel
theorem own_d1_10 : decode method_3_code 10 = .ok (.iload 4, 2) := by decide +kernel
theorem own_d1_12 : decode method_3_code 12 = .ok (.ifCond .eq 9, 3) := by decide +kernel
theorem own_d1_15 : decode method_3_code 15 = .ok (.iload 4, 2) := by decide +kernel
theorem own_d1_17 : decode method_3_code 17 = .ok (.iconst 1, 1) := by decide +kernel
theorem own_d1_18 : decode method_3_code 18 = .ok (.if_icmp .ne 6, 3) := by decide +kernel
theorem own_d1_21 : decode method_3_code 21 = .ok (.bipush 13, 2) := by decide +kernel
theorem own_d1_23 : decode method_3_code 23 = .ok (.ireturn, 1) := by decide +kernel
theorem own_d1_24 : decode method_3_code 24 = .ok (.iload 4, 2) := by decide +kernel
theorem own_d1_26 : decode method_3_code 26 = .ok (.iconst 2, 1) := by decide +kernel
theorem own_d1_27 : decode method_3_code 27 = .ok (.if_icmp .eq 9, 3) := by decide +kernel
theorem own_d1_30 : decode method_3_code 30 = .ok (.iload 4, 2) := by decide +kernel
theorem own_d1_32 : decode method_3_code 32 = .ok (.iconst 3, 1) := by decide +kernel
theorem own_d1_33 : decode method_3_code 33 = .ok (.if_icmp .ne 6, 3) := by decide +kernel
theorem own_d1_36 : decode method_3_code 36 = .ok (.bipush 10, 2) := by decide +kernel
theorem own_d1_38 : decode method_3_code 38 = .ok (.ireturn, 1) := by decide +kernel
theorem own_d1_39 : decode method_3_code 39 = .ok (.lload_n 1, 1) := by decide +kernel
theorem own_d1_40 : decode method_3_code 40 = .ok (.bipush 8, 2) := by decide +kernel
theorem own_d1_42 : decode method_3_code 42 = .ok (.iload_n 3, 1) := by decide +kernel
theorem own_d1_43 : decode method_3_code 43 = .ok (.imul, 1) := by decide +kernel
theorem own_d1_44 : decode method_3_code 44 = .ok (.lushr, 1) := by decide +kernel
theorem own_d1_45 : decode method_3_code 45 = .ok (.l2i, 1) := by decide +kernel
theorem own_d1_46 : decode method_3_code 46 = .ok (.i2b, 1) := by decide +kernel
theorem own_d1_47 : decode method_3_code 47 = .ok (.ireturn, 1) := by decide +kernel
theorem own_pn0 : plainName "com/example/swapscribe/swapscribe/input/TextFileLineEndsPinLaw" = true := by first | (simp [plainName, overriddenIn]; done) | decide +kernel
theorem own_ef1 (m : MethodId) (p0 : Int32) (q1 : Int64) (p2 : Int32) : entryFrame m #[(.int p0), (.long q1), (.int p2)] 5 = mkF m 0 #[.val (.int p0), .val (.long q1), .second, .val (.int p2), .unset] [] := by first | (simp [entryFrame, mkF, argsToLocals, Value.category]; done) | rfl
def own_f1_0 (p0 : Int32) (q1 : Int64) (p2 : Int32) : Int32 := (if (((p0.toUInt32 >>> (((3 : Int32) * p2) &&& 31).toUInt32).toInt32) &&& (7 : Int32)) = (0 : Int32) then (nar .byte (13 : Int32)) else (if (((p0.toUInt32 >>> (((3 : Int32) * p2) &&& 31).toUInt32).toInt32) &&& (7 : Int32)) = (1 : Int32) then (nar .byte (13 : Int32)) else (if (((p0.toUInt32 >>> (((3 : Int32) * p2) &&& 31).toUInt32).toInt32) &&& (7 : Int32)) = (2 : Int32) then (nar .byte (10 : Int32)) else (if (((p0.toUInt32 >>> (((3 : Int32) * p2) &&& 31).toUInt32).toInt32) &&& (7 : Int32)) = (3 : Int32) then (nar .byte (10 : Int32)) else (nar .byte ((((q1.toUInt64 >>> (((8 : Int32) * p2) &&& 0x3f).toInt64.toUInt64).toInt64).toInt32).toInt8.toInt32))))))
set_option maxRecDepth 65536 in
set_option maxHeartbeats 40000000 in
theorem own_rm1 (l : Launch) (Z : State) (aA : Array Value) (hw : ∀ d ∈ tables_1, d.before aA Z = true) (ws : List Jvm.Cond) (p0 : Int32) (q1 : Int64) (p2 : Int32)  (h0 : Heap) (n0 : Nat) (Z0 : n0 ≤ h0.size) :
    MetFree l (⟨"com/example/swapscribe/swapscribe/input/TextFileLineEndsPinLaw", "pick", "(IJI)B"⟩ : MethodName) (head1 (Jvm.Cond.code (⟨"com/example/swapscribe/swapscribe/input/TextFileLineEndsPinLaw", "pick", "(IJI)B"⟩ : MethodName) method_3_code 5 (some .byte) :: ws) ({ frames := 0, cells := 0, slots := 0, locals := 0 } : Room)) (fun a U => a = #[(.int p0), (.long q1), (.int p2)] ∧ Z.Warmed39 U.vm ∧ U.heap = h0) (fun _ _ _ _ _ => True) (fun _ U o U' => ∃ v L, o = .returned v ∧ (QP (.int (own_f1_0 p0 q1 p2)) h0 n0) v U'.heap L ∧ FrameEnd U o U' L ({ frames := 0, cells := 0, slots := 0, locals := 0 } : Room).cells ({ frames := 0, cells := 0, slots := 0, locals := 0 } : Room).slots) := by
  refine MetFree.of_bodySF (plainFor_of_name own_pn0) hisR ?_
  intro p e s m args below meth c s₁ Bd hml0 hP hK
  obtain ⟨rfl, hZ, hh⟩ := hP
  have hx := Bd.exec
  have hby := Bd.bytes
  have hml : c.maxLocals = 5 := hml0
  have hown : s.vm.findClass "com/example/swapscribe/swapscribe/input/TextFileLineEndsPinLaw" = some m.cls := findClass_of_methodNamed Bd.named
  have hnm := (name_of_methodNamed Bd.named Bd.method).1
  have X0 : Stand p l e ({ frames := 0, cells := 0, slots := 0, locals := 0 } : Room) s m #[(.int p0), (.long q1), (.int p2)] below meth c s₁ [] 0 0 := Stand.of_body Bd
  have e0 : s₁.heap = h0 := by rw [← hh, Bd.state]; rfl
  have N0 := Fr.nil n0
  refine Owe.step (T := s₁) (T' := s₁) (g' := (mkF m 0 #[.val (.int p0), .val (.long q1), .second, .val (.int p2), .unset] [])) (fun t k => castTop (own_ef1 m p0 q1 p2) k) ?_
  refine Owe.step (T' := s₁) (g' := (mkF m 12 #[.val (.int p0), .val (.long q1), .second, .val (.int p2), .val (.int (((p0.toUInt32 >>> (((3 : Int32) * p2) &&& 31).toUInt32).toInt32) &&& (7 : Int32)))] [(.int (((p0.toUInt32 >>> (((3 : Int32) * p2) &&& 31).toUInt32).toInt32) &&& (7 : Int32)))])) (fun t k => ?_) ?_
  · show Steps p.tables e below (s₁.setTop (mkF m 0 #[.val (.int p0), .val (.long q1), .second, .val (.int p2), .unset] [])) t
    refine XS.iloadN X0.here hx rfl (hb hby own_d1_0) rfl ?_
    show Steps p.tables e below (s₁.setTop (mkF m 1 #[.val (.int p0), .val (.long q1), .second, .val (.int p2), .unset] [(.int p0)])) t
    refine XS.iconst X0.here hx rfl (hb hby own_d1_1) ?_
    show Steps p.tables e below (s₁.setTop (mkF m 2 #[.val (.int p0), .val (.long q1), .second, .val (.int p2), .unset] [(.int (3 : Int32)), (.int p0)])) t
    refine XS.iloadN X0.here hx rfl (hb hby own_d1_2) rfl ?_
    show Steps p.tables e below (s₁.setTop (mkF m 3 #[.val (.int p0), .val (.long q1), .second, .val (.int p2), .unset] [(.int p2), (.int (3 : Int32)), (.int p0)])) t
    refine XS.imul X0.here hx rfl (hb hby own_d1_3) rfl ?_
    show Steps p.tables e below (s₁.setTop (mkF m 4 #[.val (.int p0), .val (.long q1), .second, .val (.int p2), .unset] [(.int ((3 : Int32) * p2)), (.int p0)])) t
    refine XS.iushr X0.here hx rfl (hb hby own_d1_4) rfl ?_
    show Steps p.tables e below (s₁.setTop (mkF m 5 #[.val (.int p0), .val (.long q1), .second, .val (.int p2), .unset] [(.int ((p0.toUInt32 >>> (((3 : Int32) * p2) &&& 31).toUInt32).toInt32))])) t
    refine XS.bipush X0.here hx rfl (hb hby own_d1_5) ?_
    show Steps p.tables e below (s₁.setTop (mkF m 7 #[.val (.int p0), .val (.long q1), .second, .val (.int p2), .unset] [(.int (7 : Int32)), (.int ((p0.toUInt32 >>> (((3 : Int32) * p2) &&& 31).toUInt32).toInt32))])) t
    refine XS.iand X0.here hx rfl (hb hby own_d1_7) rfl ?_
    show Steps p.tables e below (s₁.setTop (mkF m 8 #[.val (.int p0), .val (.long q1), .second, .val (.int p2), .unset] [(.int (((p0.toUInt32 >>> (((3 : Int32) * p2) &&& 31).toUInt32).toInt32) &&& (7 : Int32)))])) t
    refine XS.istore X0.here hx rfl (hb hby own_d1_8) rfl (l' := #[.val (.int p0), .val (.long q1), .second, .val (.int p2), .val (.int (((p0.toUInt32 >>> (((3 : Int32) * p2) &&& 31).toUInt32).toInt32) &&& (7 : Int32)))]) rfl ?_
    show Steps p.tables e below (s₁.setTop (mkF m 10 #[.val (.int p0), .val (.long q1), .second, .val (.int p2), .val (.int (((p0.toUInt32 >>> (((3 : Int32) * p2) &&& 31).toUInt32).toInt32) &&& (7 : Int32)))] [])) t
    refine XS.iload X0.here hx rfl (hb hby own_d1_10) rfl ?_
    show Steps p.tables e below (s₁.setTop (mkF m 12 #[.val (.int p0), .val (.long q1), .second, .val (.int p2), .val (.int (((p0.toUInt32 >>> (((3 : Int32) * p2) &&& 31).toUInt32).toInt32) &&& (7 : Int32)))] [(.int (((p0.toUInt32 >>> (((3 : Int32) * p2) &&& 31).toUInt32).toInt32) &&& (7 : Int32)))])) t
    exact k
  by_cases hc12 : (((p0.toUInt32 >>> (((3 : Int32) * p2) &&& 31).toUInt32).toInt32) &&& (7 : Int32)) = (0 : Int32)
  · refine Owe.step (T' := s₁) (g' := (mkF m 21 #[.val (.int p0), .val (.long q1), .second, .val (.int p2), .val (.int (((p0.toUInt32 >>> (((3 : Int32) * p2) &&& 31).toUInt32).toInt32) &&& (7 : Int32)))] [])) (fun t k => ?_) ?_
    · show Steps p.tables e below (s₁.setTop (mkF m 12 #[.val (.int p0), .val (.long q1), .second, .val (.int p2), .val (.int (((p0.toUInt32 >>> (((3 : Int32) * p2) &&& 31).toUInt32).toInt32) &&& (7 : Int32)))] [(.int (((p0.toUInt32 >>> (((3 : Int32) * p2) &&& 31).toUInt32).toInt32) &&& (7 : Int32)))])) t
      refine XS.ifYes X0.here hx rfl (pc0 := 12) (pc' := 21) rfl (hb hby own_d1_12) rfl ((if0 _ _).trans (teq hc12).1) (by decide) (by decide) ?_
      show Steps p.tables e below (s₁.setTop (mkF m 21 #[.val (.int p0), .val (.long q1), .second, .val (.int p2), .val (.int (((p0.toUInt32 >>> (((3 : Int32) * p2) &&& 31).toUInt32).toInt32) &&& (7 : Int32)))] [])) t
      exact k
    rw [show own_f1_0 p0 q1 p2 = (nar .byte (13 : Int32)) from (by rw [own_f1_0, if_pos hc12])]
    refine Owe.ret X0 Bd.notSynchronized (v := (some (.int (nar .byte (13 : Int32))))) (fun h => by rw [Bd.returns] at h; cases h) (fun fs hr => ?_) ⟨rfl, N0, e0⟩ (by decide) (by decide)
    show Steps p.tables e below (s₁.setTop (mkF m 21 #[.val (.int p0), .val (.long q1), .second, .val (.int p2), .val (.int (((p0.toUInt32 >>> (((3 : Int32) * p2) &&& 31).toUInt32).toInt32) &&& (7 : Int32)))] [])) _
    refine XS.bipush X0.here hx rfl (hb hby own_d1_21) ?_
    show Steps p.tables e below (s₁.setTop (mkF m 23 #[.val (.int p0), .val (.long q1), .second, .val (.int p2), .val (.int (((p0.toUInt32 >>> (((3 : Int32) * p2) &&& 31).toUInt32).toInt32) &&& (7 : Int32)))] [(.int (13 : Int32))])) _
    exact retN X0 hx (t := .byte) Bd.returns (by simp) (hb hby own_d1_23) hr
  · refine Owe.step (T' := s₁) (g' := (mkF m 15 #[.val (.int p0), .val (.long q1), .second, .val (.int p2), .val (.int (((p0.toUInt32 >>> (((3 : Int32) * p2) &&& 31).toUInt32).toInt32) &&& (7 : Int32)))] [])) (fun t k => ?_) ?_
    · show Steps p.tables e below (s₁.setTop (mkF m 12 #[.val (.int p0), .val (.long q1), .second, .val (.int p2), .val (.int (((p0.toUInt32 >>> (((3 : Int32) * p2) &&& 31).toUInt32).toInt32) &&& (7 : Int32)))] [(.int (((p0.toUInt32 >>> (((3 : Int32) * p2) &&& 31).toUInt32).toInt32) &&& (7 : Int32)))])) t
      refine XS.ifNo X0.here hx rfl (hb hby own_d1_12) rfl ((if0 _ _).trans (feq hc12).1) ?_
      show Steps p.tables e below (s₁.setTop (mkF m 15 #[.val (.int p0), .val (.long q1), .second, .val (.int p2), .val (.int (((p0.toUInt32 >>> (((3 : Int32) * p2) &&& 31).toUInt32).toInt32) &&& (7 : Int32)))] [])) t
      exact k
    refine Owe.step (T' := s₁) (g' := (mkF m 18 #[.val (.int p0), .val (.long q1), .second, .val (.int p2), .val (.int (((p0.toUInt32 >>> (((3 : Int32) * p2) &&& 31).toUInt32).toInt32) &&& (7 : Int32)))] [(.int (1 : Int32)), (.int (((p0.toUInt32 >>> (((3 : Int32) * p2) &&& 31).toUInt32).toInt32) &&& (7 : Int32)))])) (fun t k => ?_) ?_
    · show Steps p.tables e below (s₁.setTop (mkF m 15 #[.val (.int p0), .val (.long q1), .second, .val (.int p2), .val (.int (((p0.toUInt32 >>> (((3 : Int32) * p2) &&& 31).toUInt32).toInt32) &&& (7 : Int32)))] [])) t
      refine XS.iload X0.here hx rfl (hb hby own_d1_15) rfl ?_
      show Steps p.tables e below (s₁.setTop (mkF m 17 #[.val (.int p0), .val (.long q1), .second, .val (.int p2), .val (.int (((p0.toUInt32 >>> (((3 : Int32) * p2) &&& 31).toUInt32).toInt32) &&& (7 : Int32)))] [(.int (((p0.toUInt32 >>> (((3 : Int32) * p2) &&& 31).toUInt32).toInt32) &&& (7 : Int32)))])) t
      refine XS.iconst X0.here hx rfl (hb hby own_d1_17) ?_
      show Steps p.tables e below (s₁.setTop (mkF m 18 #[.val (.int p0), .val (.long q1), .second, .val (.int p2), .val (.int (((p0.toUInt32 >>> (((3 : Int32) * p2) &&& 31).toUInt32).toInt32) &&& (7 : Int32)))] [(.int (1 : Int32)), (.int (((p0.toUInt32 >>> (((3 : Int32) * p2) &&& 31).toUInt32).toInt32) &&& (7 : Int32)))])) t
      exact k
    by_cases hc18 : (((p0.toUInt32 >>> (((3 : Int32) * p2) &&& 31).toUInt32).toInt32) &&& (7 : Int32)) = (1 : Int32)
    · refine Owe.step (T' := s₁) (g' := (mkF m 21 #[.val (.int p0), .val (.long q1), .second, .val (.int p2), .val (.int (((p0.toUInt32 >>> (((3 : Int32) * p2) &&& 31).toUInt32).toInt32) &&& (7 : Int32)))] [])) (fun t k => ?_) ?_
      · show Steps p.tables e below (s₁.setTop (mkF m 18 #[.val (.int p0), .val (.long q1), .second, .val (.int p2), .val (.int (((p0.toUInt32 >>> (((3 : Int32) * p2) &&& 31).toUInt32).toInt32) &&& (7 : Int32)))] [(.int (1 : Int32)), (.int (((p0.toUInt32 >>> (((3 : Int32) * p2) &&& 31).toUInt32).toInt32) &&& (7 : Int32)))])) t
        refine XS.icmpNo X0.here hx rfl (hb hby own_d1_18) rfl (teq hc18).2 ?_
        show Steps p.tables e below (s₁.setTop (mkF m 21 #[.val (.int p0), .val (.long q1), .second, .val (.int p2), .val (.int (((p0.toUInt32 >>> (((3 : Int32) * p2) &&& 31).toUInt32).toInt32) &&& (7 : Int32)))] [])) t
        exact k
      rw [show own_f1_0 p0 q1 p2 = (nar .byte (13 : Int32)) from (by rw [own_f1_0, if_neg hc12, if_pos hc18])]
      refine Owe.ret X0 Bd.notSynchronized (v := (some (.int (nar .byte (13 : Int32))))) (fun h => by rw [Bd.returns] at h; cases h) (fun fs hr => ?_) ⟨rfl, N0, e0⟩ (by decide) (by decide)
      show Steps p.tables e below (s₁.setTop (mkF m 21 #[.val (.int p0), .val (.long q1), .second, .val (.int p2), .val (.int (((p0.toUInt32 >>> (((3 : Int32) * p2) &&& 31).toUInt32).toInt32) &&& (7 : Int32)))] [])) _
      refine XS.bipush X0.here hx rfl (hb hby own_d1_21) ?_
      show Steps p.tables e below (s₁.setTop (mkF m 23 #[.val (.int p0), .val (.long q1), .second, .val (.int p2), .val (.int (((p0.toUInt32 >>> (((3 : Int32) * p2) &&& 31).toUInt32).toInt32) &&& (7 : Int32)))] [(.int (13 : Int32))])) _
      exact retN X0 hx (t := .byte) Bd.returns (by simp) (hb hby own_d1_23) hr
    · refine Owe.step (T' := s₁) (g' := (mkF m 24 #[.val (.int p0), .val (.long q1), .second, .val (.int p2), .val (.int (((p0.toUInt32 >>> (((3 : Int32) * p2) &&& 31).toUInt32).toInt32) &&& (7 : Int32)))] [])) (fun t k => ?_) ?_
      · show Steps p.tables e below (s₁.setTop (mkF m 18 #[.val (.int p0), .val (.long q1), .second, .val (.int p2), .val (.int (((p0.toUInt32 >>> (((3 : Int32) * p2) &&& 31).toUInt32).toInt32) &&& (7 : Int32)))] [(.int (1 : Int32)), (.int (((p0.toUInt32 >>> (((3 : Int32) * p2) &&& 31).toUInt32).toInt32) &&& (7 : Int32)))])) t
        refine XS.icmpYes X0.here hx rfl (pc0 := 18) (pc' := 24) rfl (hb hby own_d1_18) rfl (feq hc18).2 (by decide) (by decide) ?_
        show Steps p.tables e below (s₁.setTop (mkF m 24 #[.val (.int p0), .val (.long q1), .second, .val (.int p2), .val (.int (((p0.toUInt32 >>> (((3 : Int32) * p2) &&& 31).toUInt32).toInt32) &&& (7 : Int32)))] [])) t
        exact k
      refine Owe.step (T' := s₁) (g' := (mkF m 27 #[.val (.int p0), .val (.long q1), .second, .val (.int p2), .val (.int (((p0.toUInt32 >>> (((3 : Int32) * p2) &&& 31).toUInt32).toInt32) &&& (7 : Int32)))] [(.int (2 : Int32)), (.int (((p0.toUInt32 >>> (((3 : Int32) * p2) &&& 31).toUInt32).toInt32) &&& (7 : Int32)))])) (fun t k => ?_) ?_
      · show Steps p.tables e below (s₁.setTop (mkF m 24 #[.val (.int p0), .val (.long q1), .second, .val (.int p2), .val (.int (((p0.toUInt32 >>> (((3 : Int32) * p2) &&& 31).toUInt32).toInt32) &&& (7 : Int32)))] [])) t
        refine XS.iload X0.here hx rfl (hb hby own_d1_24) rfl ?_
        show Steps p.tables e below (s₁.setTop (mkF m 26 #[.val (.int p0), .val (.long q1), .second, .val (.int p2), .val (.int (((p0.toUInt32 >>> (((3 : Int32) * p2) &&& 31).toUInt32).toInt32) &&& (7 : Int32)))] [(.int (((p0.toUInt32 >>> (((3 : Int32) * p2) &&& 31).toUInt32).toInt32) &&& (7 : Int32)))])) t
        refine XS.iconst X0.here hx rfl (hb hby own_d1_26) ?_
        show Steps p.tables e below (s₁.setTop (mkF m 27 #[.val (.int p0), .val (.long q1), .second, .val (.int p2), .val (.int (((p0.toUInt32 >>> (((3 : Int32) * p2) &&& 31).toUInt32).toInt32) &&& (7 : Int32)))] [(.int (2 : Int32)), (.int (((p0.toUInt32 >>> (((3 : Int32) * p2) &&& 31).toUInt32).toInt32) &&& (7 : Int32)))])) t
        exact k
      by_cases hc27 : (((p0.toUInt32 >>> (((3 : Int32) * p2) &&& 31).toUInt32).toInt32) &&& (7 : Int32)) = (2 : Int32)
      · refine Owe.step (T' := s₁) (g' := (mkF m 36 #[.val (.int p0), .val (.long q1), .second, .val (.int p2), .val (.int (((p0.toUInt32 >>> (((3 : Int32) * p2) &&& 31).toUInt32).toInt32) &&& (7 : Int32)))] [])) (fun t k => ?_) ?_
        · show Steps p.tables e below (s₁.setTop (mkF m 27 #[.val (.int p0), .val (.long q1), .second, .val (.int p2), .val (.int (((p0.toUInt32 >>> (((3 : Int32) * p2) &&& 31).toUInt32).toInt32) &&& (7 : Int32)))] [(.int (2 : Int32)), (.int (((p0.toUInt32 >>> (((3 : Int32) * p2) &&& 31).toUInt32).toInt32) &&& (7 : Int32)))])) t
          refine XS.icmpYes X0.here hx rfl (pc0 := 27) (pc' := 36) rfl (hb hby own_d1_27) rfl (teq hc27).1 (by decide) (by decide) ?_
          show Steps p.tables e below (s₁.setTop (mkF m 36 #[.val (.int p0), .val (.long q1), .second, .val (.int p2), .val (.int (((p0.toUInt32 >>> (((3 : Int32) * p2) &&& 31).toUInt32).toInt32) &&& (7 : Int32)))] [])) t
          exact k
        rw [show own_f1_0 p0 q1 p2 = (nar .byte (10 : Int32)) from (by rw [own_f1_0, if_neg hc12, if_neg hc18, if_pos hc27])]
        refine Owe.ret X0 Bd.notSynchronized (v := (some (.int (nar .byte (10 : Int32))))) (fun h => by rw [Bd.returns] at h; cases h) (fun fs hr => ?_) ⟨rfl, N0, e0⟩ (by decide) (by decide)
        show Steps p.tables e below (s₁.setTop (mkF m 36 #[.val (.int p0), .val (.long q1), .second, .val (.int p2), .val (.int (((p0.toUInt32 >>> (((3 : Int32) * p2) &&& 31).toUInt32).toInt32) &&& (7 : Int32)))] [])) _
        refine XS.bipush X0.here hx rfl (hb hby own_d1_36) ?_
        show Steps p.tables e below (s₁.setTop (mkF m 38 #[.val (.int p0), .val (.long q1), .second, .val (.int p2), .val (.int (((p0.toUInt32 >>> (((3 : Int32) * p2) &&& 31).toUInt32).toInt32) &&& (7 : Int32)))] [(.int (10 : Int32))])) _
        exact retN X0 hx (t := .byte) Bd.returns (by simp) (hb hby own_d1_38) hr
      · refine Owe.step (T' := s₁) (g' := (mkF m 30 #[.val (.int p0), .val (.long q1), .second, .val (.int p2), .val (.int (((p0.toUInt32 >>> (((3 : Int32) * p2) &&& 31).toUInt32).toInt32) &&& (7 : Int32)))] [])) (fun t k => ?_) ?_
        · show Steps p.tables e below (s₁.setTop (mkF m 27 #[.val (.int p0), .val (.long q1), .second, .val (.int p2), .val (.int (((p0.toUInt32 >>> (((3 : Int32) * p2) &&& 31).toUInt32).toInt32) &&& (7 : Int32)))] [(.int (2 : Int32)), (.int (((p0.toUInt32 >>> (((3 : Int32) * p2) &&& 31).toUInt32).toInt32) &&& (7 : Int32)))])) t
          refine XS.icmpNo X0.here hx rfl (hb hby own_d1_27) rfl (feq hc27).1 ?_
          show Steps p.tables e below (s₁.setTop (mkF m 30 #[.val (.int p0), .val (.long q1), .second, .val (.int p2), .val (.int (((p0.toUInt32 >>> (((3 : Int32) * p2) &&& 31).toUInt32).toInt32) &&& (7 : Int32)))] [])) t
          exact k
        refine Owe.step (T' := s₁) (g' := (mkF m 33 #[.val (.int p0), .val (.long q1), .second, .val (.int p2), .val (.int (((p0.toUInt32 >>> (((3 : Int32) * p2) &&& 31).toUInt32).toInt32) &&& (7 : Int32)))] [(.int (3 : Int32)), (.int (((p0.toUInt32 >>> (((3 : Int32) * p2) &&& 31).toUInt32).toInt32) &&& (7 : Int32)))])) (fun t k => ?_) ?_
        · show Steps p.tables e below (s₁.setTop (mkF m 30 #[.val (.int p0), .val (.long q1), .second, .val (.int p2), .val (.int (((p0.toUInt32 >>> (((3 : Int32) * p2) &&& 31).toUInt32).toInt32) &&& (7 : Int32)))] [])) t
          refine XS.iload X0.here hx rfl (hb hby own_d1_30) rfl ?_
          show Steps p.tables e below (s₁.setTop (mkF m 32 #[.val (.int p0), .val (.long q1), .second, .val (.int p2), .val (.int (((p0.toUInt32 >>> (((3 : Int32) * p2) &&& 31).toUInt32).toInt32) &&& (7 : Int32)))] [(.int (((p0.toUInt32 >>> (((3 : Int32) * p2) &&& 31).toUInt32).toInt32) &&& (7 : Int32)))])) t
          refine XS.iconst X0.here hx rfl (hb hby own_d1_32) ?_
          show Steps p.tables e below (s₁.setTop (mkF m 33 #[.val (.int p0), .val (.long q1), .second, .val (.int p2), .val (.int (((p0.toUInt32 >>> (((3 : Int32) * p2) &&& 31).toUInt32).toInt32) &&& (7 : Int32)))] [(.int (3 : Int32)), (.int (((p0.toUInt32 >>> (((3 : Int32) * p2) &&& 31).toUInt32).toInt32) &&& (7 : Int32)))])) t
          exact k
        by_cases hc33 : (((p0.toUInt32 >>> (((3 : Int32) * p2) &&& 31).toUInt32).toInt32) &&& (7 : Int32)) = (3 : Int32)
        · refine Owe.step (T' := s₁) (g' := (mkF m 36 #[.val (.int p0), .val (.long q1), .second, .val (.int p2), .val (.int (((p0.toUInt32 >>> (((3 : Int32) * p2) &&& 31).toUInt32).toInt32) &&& (7 : Int32)))] [])) (fun t k => ?_) ?_
          · show Steps p.tables e below (s₁.setTop (mkF m 33 #[.val (.int p0), .val (.long q1), .second, .val (.int p2), .val (.int (((p0.toUInt32 >>> (((3 : Int32) * p2) &&& 31).toUInt32).toInt32) &&& (7 : Int32)))] [(.int (3 : Int32)), (.int (((p0.toUInt32 >>> (((3 : Int32) * p2) &&& 31).toUInt32).toInt32) &&& (7 : Int32)))])) t
            refine XS.icmpNo X0.here hx rfl (hb hby own_d1_33) rfl (teq hc33).2 ?_
            show Steps p.tables e below (s₁.setTop (mkF m 36 #[.val (.int p0), .val (.long q1), .second, .val (.int p2), .val (.int (((p0.toUInt32 >>> (((3 : Int32) * p2) &&& 31).toUInt32).toInt32) &&& (7 : Int32)))] [])) t
            exact k
          rw [show own_f1_0 p0 q1 p2 = (nar .byte (10 : Int32)) from (by rw [own_f1_0, if_neg hc12, if_neg hc18, if_neg hc27, if_pos hc33])]
          refine Owe.ret X0 Bd.notSynchronized (v := (some (.int (nar .byte (10 : Int32))))) (fun h => by rw [Bd.returns] at h; cases h) (fun fs hr => ?_) ⟨rfl, N0, e0⟩ (by decide) (by decide)
          show Steps p.tables e below (s₁.setTop (mkF m 36 #[.val (.int p0), .val (.long q1), .second, .val (.int p2), .val (.int (((p0.toUInt32 >>> (((3 : Int32) * p2) &&& 31).toUInt32).toInt32) &&& (7 : Int32)))] [])) _
          refine XS.bipush X0.here hx rfl (hb hby own_d1_36) ?_
          show Steps p.tables e below (s₁.setTop (mkF m 38 #[.val (.int p0), .val (.long q1), .second, .val (.int p2), .val (.int (((p0.toUInt32 >>> (((3 : Int32) * p2) &&& 31).toUInt32).toInt32) &&& (7 : Int32)))] [(.int (10 : Int32))])) _
          exact retN X0 hx (t := .byte) Bd.returns (by simp) (hb hby own_d1_38) hr
        · refine Owe.step (T' := s₁) (g' := (mkF m 39 #[.val (.int p0), .val (.long q1), .second, .val (.int p2), .val (.int (((p0.toUInt32 >>> (((3 : Int32) * p2) &&& 31).toUInt32).toInt32) &&& (7 : Int32)))] [])) (fun t k => ?_) ?_
          · show Steps p.tables e below (s₁.setTop (mkF m 33 #[.val (.int p0), .val (.long q1), .second, .val (.int p2), .val (.int (((p0.toUInt32 >>> (((3 : Int32) * p2) &&& 31).toUInt32).toInt32) &&& (7 : Int32)))] [(.int (3 : Int32)), (.int (((p0.toUInt32 >>> (((3 : Int32) * p2) &&& 31).toUInt32).toInt32) &&& (7 : Int32)))])) t
            refine XS.icmpYes X0.here hx rfl (pc0 := 33) (pc' := 39) rfl (hb hby own_d1_33) rfl (feq hc33).2 (by decide) (by decide) ?_
            show Steps p.tables e below (s₁.setTop (mkF m 39 #[.val (.int p0), .val (.long q1), .second, .val (.int p2), .val (.int (((p0.toUInt32 >>> (((3 : Int32) * p2) &&& 31).toUInt32).toInt32) &&& (7 : Int32)))] [])) t
            exact k
          rw [show own_f1_0 p0 q1 p2 = (nar .byte ((((q1.toUInt64 >>> (((8 : Int32) * p2) &&& 0x3f).toInt64.toUInt64).toInt64).toInt32).toInt8.toInt32)) from (by rw [own_f1_0, if_neg hc12, if_neg hc18, if_neg hc27, if_neg hc33])]
          refine Owe.ret X0 Bd.notSynchronized (v := (some (.int (nar .byte ((((q1.toUInt64 >>> (((8 : Int32) * p2) &&& 0x3f).toInt64.toUInt64).toInt64).toInt32).toInt8.toInt32))))) (fun h => by rw [Bd.returns] at h; cases h) (fun fs hr => ?_) ⟨rfl, N0, e0⟩ (by decide) (by decide)
          show Steps p.tables e below (s₁.setTop (mkF m 39 #[.val (.int p0), .val (.long q1), .second, .val (.int p2), .val (.int (((p0.toUInt32 >>> (((3 : Int32) * p2) &&& 31).toUInt32).toInt32) &&& (7 : Int32)))] [])) _
          refine XS.lloadN X0.here hx rfl (hb hby own_d1_39) rfl ?_
          show Steps p.tables e below (s₁.setTop (mkF m 40 #[.val (.int p0), .val (.long q1), .second, .val (.int p2), .val (.int (((p0.toUInt32 >>> (((3 : Int32) * p2) &&& 31).toUInt32).toInt32) &&& (7 : Int32)))] [(.long q1)])) _
          refine XS.bipush X0.here hx rfl (hb hby own_d1_40) ?_
          show Steps p.tables e below (s₁.setTop (mkF m 42 #[.val (.int p0), .val (.long q1), .second, .val (.int p2), .val (.int (((p0.toUInt32 >>> (((3 : Int32) * p2) &&& 31).toUInt32).toInt32) &&& (7 : Int32)))] [(.int (8 : Int32)), (.long q1)])) _
          refine XS.iloadN X0.here hx rfl (hb hby own_d1_42) rfl ?_
          show Steps p.tables e below (s₁.setTop (mkF m 43 #[.val (.int p0), .val (.long q1), .second, .val (.int p2), .val (.int (((p0.toUInt32 >>> (((3 : Int32) * p2) &&& 31).toUInt32).toInt32) &&& (7 : Int32)))] [(.int p2), (.int (8 : Int32)), (.long q1)])) _
          refine XS.imul X0.here hx rfl (hb hby own_d1_43) rfl ?_
          show Steps p.tables e below (s₁.setTop (mkF m 44 #[.val (.int p0), .val (.long q1), .second, .val (.int p2), .val (.int (((p0.toUInt32 >>> (((3 : Int32) * p2) &&& 31).toUInt32).toInt32) &&& (7 : Int32)))] [(.int ((8 : Int32) * p2)), (.long q1)])) _
          refine XS.lushr X0.here hx rfl (hb hby own_d1_44) rfl ?_
          show Steps p.tables e below (s₁.setTop (mkF m 45 #[.val (.int p0), .val (.long q1), .second, .val (.int p2), .val (.int (((p0.toUInt32 >>> (((3 : Int32) * p2) &&& 31).toUInt32).toInt32) &&& (7 : Int32)))] [(.long ((q1.toUInt64 >>> (((8 : Int32) * p2) &&& 0x3f).toInt64.toUInt64).toInt64))])) _
          refine XS.l2i X0.here hx rfl (hb hby own_d1_45) rfl ?_
          show Steps p.tables e below (s₁.setTop (mkF m 46 #[.val (.int p0), .val (.long q1), .second, .val (.int p2), .val (.int (((p0.toUInt32 >>> (((3 : Int32) * p2) &&& 31).toUInt32).toInt32) &&& (7 : Int32)))] [(.int (((q1.toUInt64 >>> (((8 : Int32) * p2) &&& 0x3f).toInt64.toUInt64).toInt64).toInt32))])) _
          refine XS.i2b X0.here hx rfl (hb hby own_d1_46) rfl ?_
          show Steps p.tables e below (s₁.setTop (mkF m 47 #[.val (.int p0), .val (.long q1), .second, .val (.int p2), .val (.int (((p0.toUInt32 >>> (((3 : Int32) * p2) &&& 31).toUInt32).toInt32) &&& (7 : Int32)))] [(.int ((((q1.toUInt64 >>> (((8 : Int32) * p2) &&& 0x3f).toInt64.toUInt64).toInt64).toInt32).toInt8.toInt32))])) _
          exact retN X0 hx (t := .byte) Bd.returns (by simp) (hb hby own_d1_47) hr
def own_ok6 (j : Int32) : Prop := ¬ j < 0 ∧ j.toNatClampNeg < 6
theorem own_ok6_i {j : Int32} (h : own_ok6 j) : 0 ≤ j.toInt ∧ j.toInt < 6 := by
  obtain ⟨h0, h1⟩ := h
  have e0 : (0 : Int32).toInt = 0 := rfl
  have e1 : j.toNatClampNeg = j.toInt.toNat := rfl
  rw [Int32.lt_iff_toInt_lt, e0] at h0
  rw [e1] at h1
  omega
theorem own_k6 (j : Int32) (h : 0 ≤ j.toInt ∧ j.toInt < 6) : own_ok6 j := own_ix h.1 h.2
theorem own_nx {j t : Int32} (h : own_ok6 j) (ht : t.toInt ≤ 6) (hl : (j + (1 : Int32)) < t) : own_ok6 (j + (1 : Int32)) := by
  have g := own_ok6_i h
  have e1 : (1 : Int32).toInt = 1 := rfl
  have a := c_iadd j 1
  have r := rng32 (j + 1)
  rw [Int32.lt_iff_toInt_lt] at hl
  rw [e1] at a
  exact own_ix (by omega) (by omega)
def own_inv (t i : Int32) (n : Nat) : Prop := 0 ≤ i.toInt ∧ t.toInt - i.toInt ≤ n
theorem own_z {t i : Int32} (h : own_inv t i 0) : ¬ i < t := by
  have := h.2
  rw [Int32.lt_iff_toInt_lt]; omega
theorem own_v0 {t i : Int32} (h : 0 ≤ i.toInt) (ht : t.toInt ≤ 6) : own_inv t i 6 := ⟨h, by omega⟩
theorem own_v1 {t i : Int32} {n : Nat} (h : own_inv t i (n + 1)) (ht : t.toInt ≤ 6) (hl : i < t) : own_inv t (i + (1 : Int32)) n := by
  have e1 : (1 : Int32).toInt = 1 := rfl
  have a := c_iadd i 1
  have r := rng32 (i + 1)
  rw [Int32.lt_iff_toInt_lt] at hl
  rw [e1] at a
  obtain ⟨h1, h2⟩ := h
  constructor <;> omega
theorem own_ii {t i : Int32} {n : Nat} (h : own_inv t i n) (ht : t.toInt ≤ 6) (hl : i < t) : own_ok6 i := by
  rw [Int32.lt_iff_toInt_lt] at hl
  exact own_ix h.1 (by omega)
theorem own_i7 (x : Int32) : 0 ≤ ((x &&& (2147483647 : Int32)) - ((x &&& (2147483647 : Int32)) / (7 : Int32)) * (7 : Int32)).toInt ∧ ((x &&& (2147483647 : Int32)) - ((x &&& (2147483647 : Int32)) / (7 : Int32)) * (7 : Int32)).toInt ≤ 6 := by
  have h := c_mask x 2147483647 31 (by decide) (by decide)
  rw [own_irem]
  have r := c_irem (x &&& (2147483647 : Int32)) 7 7 (by decide)
  omega
theorem own_7s {f : Int32} (h : 0 ≤ f.toInt ∧ f.toInt ≤ 6) : ((7 : Int32) - f).toInt = 7 - f.toInt := by
  have a := c_isub 7 f
  have r := rng32 (7 - f)
  have e1 : (7 : Int32).toInt = 7 := rfl
  rw [e1] at a
  omega
theorem own_nz {f : Int32} (h : 0 ≤ f.toInt ∧ f.toInt ≤ 6) : (7 : Int32) - f ≠ 0 := fun q => by
  have a := own_7s h
  rw [q] at a
  have e1 : (0 : Int32).toInt = 0 := rfl
  omega
theorem own_to (x : Int32) {f : Int32} (hf : 0 ≤ f.toInt ∧ f.toInt ≤ 6) : f.toInt ≤ (f + ((x &&& (2147483647 : Int32)) - ((x &&& (2147483647 : Int32)) / ((7 : Int32) - f)) * ((7 : Int32) - f))).toInt ∧ (f + ((x &&& (2147483647 : Int32)) - ((x &&& (2147483647 : Int32)) / ((7 : Int32) - f)) * ((7 : Int32) - f))).toInt ≤ 6 := by
  have h := c_mask x 2147483647 31 (by decide) (by decide)
  have g := own_7s hf
  rw [own_irem]
  have r := (c_iremV (x &&& (2147483647 : Int32)) ((7 : Int32) - f)).1 (by omega) (by omega)
  have a := c_iadd f ((x &&& (2147483647 : Int32)) % ((7 : Int32) - f))
  have rr := rng32 (f + ((x &&& (2147483647 : Int32)) % ((7 : Int32) - f)))
  omega
theorem own_d2_0 : decode method_4_code 0 = .ok (.iload_n 1, 1) := by decide +kernel
theorem own_d2_1 : decode method_4_code 1 = .ok (.iload_n 2, 1) := by decide +kernel
theorem own_d2_2 : decode method_4_code 2 = .ok (.if_icmp .lt 8, 3) := by decide +kernel
theorem own_d2_5 : decode method_4_code 5 = .ok (.iload_n 1, 1) := by decide +kernel
theorem own_d2_6 : decode method_4_code 6 = .ok (.iload_n 3, 1) := by decide +kernel
theorem own_d2_7 : decode method_4_code 7 = .ok (.if_icmp .lt 5, 3) := by decide +kernel
theorem own_d2_10 : decode method_4_code 10 = .ok (.iconst 0, 1) := by decide +kernel
theorem own_d2_11 : decode method_4_code 11 = .ok (.ireturn, 1) := by decide +kernel
theorem own_d2_12 : decode method_4_code 12 = .ok (.iconst 0, 1) := by decide +kernel
theorem own_d2_13 : decode method_4_code 13 = .ok (.istore 4, 2) := by decide +kernel
theorem own_d2_15 : decode method_4_code 15 = .ok (.aload_n 0, 1) := by decide +kernel
theorem own_d2_16 : decode method_4_code 16 = .ok (.iload_n 1, 1) := by decide +kernel
theorem own_d2_17 : decode method_4_code 17 = .ok (.baload, 1) := by decide +kernel
theorem own_d2_18 : decode method_4_code 18 = .ok (.bipush 10, 2) := by decide +kernel
theorem own_d2_20 : decode method_4_code 20 = .ok (.if_icmp .ne 6, 3) := by decide +kernel
theorem own_d2_23 : decode method_4_code 23 = .ok (.iinc 4 1, 3) := by decide +kernel
theorem own_d2_26 : decode method_4_code 26 = .ok (.aload_n 0, 1) := by decide +kernel
theorem own_d2_27 : decode method_4_code 27 = .ok (.iload_n 1, 1) := by decide +kernel
theorem own_d2_28 : decode method_4_code 28 = .ok (.baload, 1) := by decide +kernel
theorem own_d2_29 : decode method_4_code 29 = .ok (.bipush 13, 2) := by decide +kernel
theorem own_d2_31 : decode method_4_code 31 = .ok (.if_icmp .ne 6, 3) := by decide +kernel
theorem own_d2_34 : decode method_4_code 34 = .ok (.iinc 4 1, 3) := by decide +kernel
theorem own_d2_37 : decode method_4_code 37 = .ok (.iload_n 1, 1) := by decide +kernel
theorem own_d2_38 : decode method_4_code 38 = .ok (.iconst 1, 1) := by decide +kernel
theorem own_d2_39 : decode method_4_code 39 = .ok (.iadd, 1) := by decide +kernel
theorem own_d2_40 : decode method_4_code 40 = .ok (.iload_n 3, 1) := by decide +kernel
theorem own_d2_41 : decode method_4_code 41 = .ok (.if_icmp .ge 24, 3) := by decide +kernel
theorem own_d2_44 : decode method_4_code 44 = .ok (.aload_n 0, 1) := by decide +kernel
theorem own_d2_45 : decode method_4_code 45 = .ok (.iload_n 1, 1) := by decide +kernel
theorem own_d2_46 : decode method_4_code 46 = .ok (.baload, 1) := by decide +kernel
theorem own_d2_47 : decode method_4_code 47 = .ok (.bipush 13, 2) := by decide +kernel
theorem own_d2_49 : decode method_4_code 49 = .ok (.if_icmp .ne 16, 3) := by decide +kernel
theorem own_d2_52 : decode method_4_code 52 = .ok (.aload_n 0, 1) := by decide +kernel
theorem own_d2_53 : decode method_4_code 53 = .ok (.iload_n 1, 1) := by decide +kernel
theorem own_d2_54 : decode method_4_code 54 = .ok (.iconst 1, 1) := by decide +kernel
theorem own_d2_55 : decode method_4_code 55 = .ok (.iadd, 1) := by decide +kernel
theorem own_d2_56 : decode method_4_code 56 = .ok (.baload, 1) := by decide +kernel
theorem own_d2_57 : decode method_4_code 57 = .ok (.bipush 10, 2) := by decide +kernel
theorem own_d2_59 : decode method_4_code 59 = .ok (.if_icmp .ne 6, 3) := by decide +kernel
theorem own_d2_62 : decode method_4_code 62 = .ok (.iinc 4 (-1), 3) := by decide +kernel
theorem own_d2_65 : decode method_4_code 65 = .ok (.iload 4, 2) := by decide +kernel
theorem own_d2_67 : decode method_4_code 67 = .ok (.ireturn, 1) := by decide +kernel
theorem own_ef2 (m : MethodId) (a0 : Addr) (p1 : Int32) (p2 : Int32) (p3 : Int32) : entryFrame m #[(.ref a0), (.int p1), (.int p2), (.int p3)] 5 = mkF m 0 #[.val (.ref a0), .val (.int p1), .val (.int p2), .val (.int p3), .unset] [] := by first | (simp [entryFrame, mkF, argsToLocals, Value.category]; done) | rfl
def own_f2_37 (p1 : Int32) (p3 : Int32) (fn : Nat → Int32) (v37_4 : Int32) : Int32 := (if (p1 + (1 : Int32)) < p3 then (if (fn (p1).toNatClampNeg) = (13 : Int32) then (if (fn ((p1 + (1 : Int32))).toNatClampNeg) = (10 : Int32) then (v37_4 + (-1 : Int32)) else v37_4) else v37_4) else v37_4)
def own_f2_26 (p1 : Int32) (p3 : Int32) (fn : Nat → Int32) (v26_4 : Int32) : Int32 := (if (fn (p1).toNatClampNeg) = (13 : Int32) then (own_f2_37 p1 p3 fn (v26_4 + (1 : Int32))) else (own_f2_37 p1 p3 fn v26_4))
def own_f2_0 (p1 : Int32) (p2 : Int32) (p3 : Int32) (fn : Nat → Int32) : Int32 := (if p1 < p2 then (0 : Int32) else (if p1 < p3 then (if (fn (p1).toNatClampNeg) = (10 : Int32) then (own_f2_26 p1 p3 fn ((0 : Int32) + (1 : Int32))) else (own_f2_26 p1 p3 fn (0 : Int32))) else (0 : Int32)))
set_option maxRecDepth 65536 in
set_option maxHeartbeats 40000000 in
theorem own_rm2 (l : Launch) (Z : State) (aA : Array Value) (hw : ∀ d ∈ tables_1, d.before aA Z = true) (ws : List Jvm.Cond) (a0 : Addr) (p1 : Int32) (p2 : Int32) (p3 : Int32) (fn : Nat → Int32) (h0 : Heap) (n0 : Nat) (Z0 : n0 ≤ h0.size) (A_b : AI Z h0 a0 .byte 6 fn) (hi : own_ok6 p1) (ht : p3.toInt ≤ 6) :
    MetFree l (⟨"com/example/swapscribe/swapscribe/input/TextFileLineEndsPinLaw", "at", "([BIII)I"⟩ : MethodName) (head1 (Jvm.Cond.code (⟨"com/example/swapscribe/swapscribe/input/TextFileLineEndsPinLaw", "at", "([BIII)I"⟩ : MethodName) method_4_code 5 (some .int) :: ws) ({ frames := 0, cells := 0, slots := 0, locals := 0 } : Room)) (fun a U => a = #[(.ref a0), (.int p1), (.int p2), (.int p3)] ∧ Z.Warmed39 U.vm ∧ U.heap = h0) (fun _ _ _ _ _ => True) (fun _ U o U' => ∃ v L, o = .returned v ∧ (QP (.int (own_f2_0 p1 p2 p3 fn)) h0 n0) v U'.heap L ∧ FrameEnd U o U' L ({ frames := 0, cells := 0, slots := 0, locals := 0 } : Room).cells ({ frames := 0, cells := 0, slots := 0, locals := 0 } : Room).slots) := by
  refine MetFree.of_bodySF (plainFor_of_name own_pn0) hisR ?_
  intro p e s m args below meth c s₁ Bd hml0 hP hK
  obtain ⟨rfl, hZ, hh⟩ := hP
  have hx := Bd.exec
  have hby := Bd.bytes
  have hml : c.maxLocals = 5 := hml0
  have hown : s.vm.findClass "com/example/swapscribe/swapscribe/input/TextFileLineEndsPinLaw" = some m.cls := findClass_of_methodNamed Bd.named
  have hnm := (name_of_methodNamed Bd.named Bd.method).1
  have X0 : Stand p l e ({ frames := 0, cells := 0, slots := 0, locals := 0 } : Room) s m #[(.ref a0), (.int p1), (.int p2), (.int p3)] below meth c s₁ [] 0 0 := Stand.of_body Bd
  have e0 : s₁.heap = h0 := by rw [← hh, Bd.state]; rfl
  have N0 := Fr.nil n0
  refine Owe.step (T := s₁) (T' := s₁) (g' := (mkF m 0 #[.val (.ref a0), .val (.int p1), .val (.int p2), .val (.int p3), .unset] [])) (fun t k => castTop (own_ef2 m a0 p1 p2 p3) k) ?_
  refine Owe.step (T' := s₁) (g' := (mkF m 2 #[.val (.ref a0), .val (.int p1), .val (.int p2), .val (.int p3), .unset] [(.int p2), (.int p1)])) (fun t k => ?_) ?_
  · show Steps p.tables e below (s₁.setTop (mkF m 0 #[.val (.ref a0), .val (.int p1), .val (.int p2), .val (.int p3), .unset] [])) t
    refine XS.iloadN X0.here hx rfl (hb hby own_d2_0) rfl ?_
    show Steps p.tables e below (s₁.setTop (mkF m 1 #[.val (.ref a0), .val (.int p1), .val (.int p2), .val (.int p3), .unset] [(.int p1)])) t
    refine XS.iloadN X0.here hx rfl (hb hby own_d2_1) rfl ?_
    show Steps p.tables e below (s₁.setTop (mkF m 2 #[.val (.ref a0), .val (.int p1), .val (.int p2), .val (.int p3), .unset] [(.int p2), (.int p1)])) t
    exact k
  by_cases hc2 : p1 < p2
  · refine Owe.step (T' := s₁) (g' := (mkF m 10 #[.val (.ref a0), .val (.int p1), .val (.int p2), .val (.int p3), .unset] [])) (fun t k => ?_) ?_
    · show Steps p.tables e below (s₁.setTop (mkF m 2 #[.val (.ref a0), .val (.int p1), .val (.int p2), .val (.int p3), .unset] [(.int p2), (.int p1)])) t
      refine XS.icmpYes X0.here hx rfl (pc0 := 2) (pc' := 10) rfl (hb hby own_d2_2) rfl (tlt hc2).1 (by decide) (by decide) ?_
      show Steps p.tables e below (s₁.setTop (mkF m 10 #[.val (.ref a0), .val (.int p1), .val (.int p2), .val (.int p3), .unset] [])) t
      exact k
    rw [show own_f2_0 p1 p2 p3 fn = (0 : Int32) from (by rw [own_f2_0, if_pos hc2])]
    refine Owe.ret X0 Bd.notSynchronized (v := (some (.int (0 : Int32)))) (fun h => by rw [Bd.returns] at h; cases h) (fun fs hr => ?_) ⟨rfl, N0, e0⟩ (by decide) (by decide)
    show Steps p.tables e below (s₁.setTop (mkF m 10 #[.val (.ref a0), .val (.int p1), .val (.int p2), .val (.int p3), .unset] [])) _
    refine XS.iconst X0.here hx rfl (hb hby own_d2_10) ?_
    show Steps p.tables e below (s₁.setTop (mkF m 11 #[.val (.ref a0), .val (.int p1), .val (.int p2), .val (.int p3), .unset] [(.int (0 : Int32))])) _
    exact retI X0 hx Bd.returns (hb hby own_d2_11) hr
  · refine Owe.step (T' := s₁) (g' := (mkF m 5 #[.val (.ref a0), .val (.int p1), .val (.int p2), .val (.int p3), .unset] [])) (fun t k => ?_) ?_
    · show Steps p.tables e below (s₁.setTop (mkF m 2 #[.val (.ref a0), .val (.int p1), .val (.int p2), .val (.int p3), .unset] [(.int p2), (.int p1)])) t
      refine XS.icmpNo X0.here hx rfl (hb hby own_d2_2) rfl (flt hc2).1 ?_
      show Steps p.tables e below (s₁.setTop (mkF m 5 #[.val (.ref a0), .val (.int p1), .val (.int p2), .val (.int p3), .unset] [])) t
      exact k
    refine Owe.step (T' := s₁) (g' := (mkF m 7 #[.val (.ref a0), .val (.int p1), .val (.int p2), .val (.int p3), .unset] [(.int p3), (.int p1)])) (fun t k => ?_) ?_
    · show Steps p.tables e below (s₁.setTop (mkF m 5 #[.val (.ref a0), .val (.int p1), .val (.int p2), .val (.int p3), .unset] [])) t
      refine XS.iloadN X0.here hx rfl (hb hby own_d2_5) rfl ?_
      show Steps p.tables e below (s₁.setTop (mkF m 6 #[.val (.ref a0), .val (.int p1), .val (.int p2), .val (.int p3), .unset] [(.int p1)])) t
      refine XS.iloadN X0.here hx rfl (hb hby own_d2_6) rfl ?_
      show Steps p.tables e below (s₁.setTop (mkF m 7 #[.val (.ref a0), .val (.int p1), .val (.int p2), .val (.int p3), .unset] [(.int p3), (.int p1)])) t
      exact k
    by_cases hc7 : p1 < p3
    · refine Owe.step (T' := s₁) (g' := (mkF m 12 #[.val (.ref a0), .val (.int p1), .val (.int p2), .val (.int p3), .unset] [])) (fun t k => ?_) ?_
      · show Steps p.tables e below (s₁.setTop (mkF m 7 #[.val (.ref a0), .val (.int p1), .val (.int p2), .val (.int p3), .unset] [(.int p3), (.int p1)])) t
        refine XS.icmpYes X0.here hx rfl (pc0 := 7) (pc' := 12) rfl (hb hby own_d2_7) rfl (tlt hc7).1 (by decide) (by decide) ?_
        show Steps p.tables e below (s₁.setTop (mkF m 12 #[.val (.ref a0), .val (.int p1), .val (.int p2), .val (.int p3), .unset] [])) t
        exact k
      refine Owe.step (T' := s₁) (g' := (mkF m 20 #[.val (.ref a0), .val (.int p1), .val (.int p2), .val (.int p3), .val (.int (0 : Int32))] [(.int (10 : Int32)), (.int (fn (p1).toNatClampNeg))])) (fun t k => ?_) ?_
      · show Steps p.tables e below (s₁.setTop (mkF m 12 #[.val (.ref a0), .val (.int p1), .val (.int p2), .val (.int p3), .unset] [])) t
        refine XS.iconst X0.here hx rfl (hb hby own_d2_12) ?_
        show Steps p.tables e below (s₁.setTop (mkF m 13 #[.val (.ref a0), .val (.int p1), .val (.int p2), .val (.int p3), .unset] [(.int (0 : Int32))])) t
        refine XS.istore X0.here hx rfl (hb hby own_d2_13) rfl (l' := #[.val (.ref a0), .val (.int p1), .val (.int p2), .val (.int p3), .val (.int (0 : Int32))]) rfl ?_
        show Steps p.tables e below (s₁.setTop (mkF m 15 #[.val (.ref a0), .val (.int p1), .val (.int p2), .val (.int p3), .val (.int (0 : Int32))] [])) t
        refine XS.aloadN X0.here hx rfl (hb hby own_d2_15) rfl rfl ?_
        show Steps p.tables e below (s₁.setTop (mkF m 16 #[.val (.ref a0), .val (.int p1), .val (.int p2), .val (.int p3), .val (.int (0 : Int32))] [(.ref a0)])) t
        refine XS.iloadN X0.here hx rfl (hb hby own_d2_16) rfl ?_
        show Steps p.tables e below (s₁.setTop (mkF m 17 #[.val (.ref a0), .val (.int p1), .val (.int p2), .val (.int p3), .val (.int (0 : Int32))] [(.int p1), (.ref a0)])) t
        refine ldAB X0 hx hZ e0 A_b (j := p1) hi.1 hi.2 (g := (mkF m 17 #[.val (.ref a0), .val (.int p1), .val (.int p2), .val (.int p3), .val (.int (0 : Int32))] [(.int p1), (.ref a0)])) rfl rfl (hb hby own_d2_17) _ ?_
        show Steps p.tables e below (s₁.setTop (mkF m 18 #[.val (.ref a0), .val (.int p1), .val (.int p2), .val (.int p3), .val (.int (0 : Int32))] [(.int (fn (p1).toNatClampNeg))])) t
        refine XS.bipush X0.here hx rfl (hb hby own_d2_18) ?_
        show Steps p.tables e below (s₁.setTop (mkF m 20 #[.val (.ref a0), .val (.int p1), .val (.int p2), .val (.int p3), .val (.int (0 : Int32))] [(.int (10 : Int32)), (.int (fn (p1).toNatClampNeg))])) t
        exact k
      have j26 : ∀ (T : State) (Lc : List Loc) (X : Stand p l e ({ frames := 0, cells := 0, slots := 0, locals := 0 } : Room) s m #[(.ref a0), (.int p1), (.int p2), (.int p3)] below meth c T Lc 0 0) (eT : T.heap = h0) (N : Fr n0 Lc) (v26_4 : Int32), Owe p e below s ({ frames := 0, cells := 0, slots := 0, locals := 0 } : Room).cells ({ frames := 0, cells := 0, slots := 0, locals := 0 } : Room).slots (QP (.int (own_f2_26 p1 p3 fn v26_4)) h0 n0) T (mkF m 26 #[.val (.ref a0), .val (.int p1), .val (.int p2), .val (.int p3), .val (.int v26_4)] []) := by
        intro T26j Lc26j X26j e26j N26j v26_4
        refine Owe.step (T' := T26j) (g' := (mkF m 31 #[.val (.ref a0), .val (.int p1), .val (.int p2), .val (.int p3), .val (.int v26_4)] [(.int (13 : Int32)), (.int (fn (p1).toNatClampNeg))])) (fun t k => ?_) ?_
        · show Steps p.tables e below (T26j.setTop (mkF m 26 #[.val (.ref a0), .val (.int p1), .val (.int p2), .val (.int p3), .val (.int v26_4)] [])) t
          refine XS.aloadN X26j.here hx rfl (hb hby own_d2_26) rfl rfl ?_
          show Steps p.tables e below (T26j.setTop (mkF m 27 #[.val (.ref a0), .val (.int p1), .val (.int p2), .val (.int p3), .val (.int v26_4)] [(.ref a0)])) t
          refine XS.iloadN X26j.here hx rfl (hb hby own_d2_27) rfl ?_
          show Steps p.tables e below (T26j.setTop (mkF m 28 #[.val (.ref a0), .val (.int p1), .val (.int p2), .val (.int p3), .val (.int v26_4)] [(.int p1), (.ref a0)])) t
          refine ldAB X26j hx hZ e26j A_b (j := p1) hi.1 hi.2 (g := (mkF m 28 #[.val (.ref a0), .val (.int p1), .val (.int p2), .val (.int p3), .val (.int v26_4)] [(.int p1), (.ref a0)])) rfl rfl (hb hby own_d2_28) _ ?_
          show Steps p.tables e below (T26j.setTop (mkF m 29 #[.val (.ref a0), .val (.int p1), .val (.int p2), .val (.int p3), .val (.int v26_4)] [(.int (fn (p1).toNatClampNeg))])) t
          refine XS.bipush X26j.here hx rfl (hb hby own_d2_29) ?_
          show Steps p.tables e below (T26j.setTop (mkF m 31 #[.val (.ref a0), .val (.int p1), .val (.int p2), .val (.int p3), .val (.int v26_4)] [(.int (13 : Int32)), (.int (fn (p1).toNatClampNeg))])) t
          exact k
        have j37 : ∀ (T : State) (Lc : List Loc) (X : Stand p l e ({ frames := 0, cells := 0, slots := 0, locals := 0 } : Room) s m #[(.ref a0), (.int p1), (.int p2), (.int p3)] below meth c T Lc 0 0) (eT : T.heap = h0) (N : Fr n0 Lc) (v37_4 : Int32), Owe p e below s ({ frames := 0, cells := 0, slots := 0, locals := 0 } : Room).cells ({ frames := 0, cells := 0, slots := 0, locals := 0 } : Room).slots (QP (.int (own_f2_37 p1 p3 fn v37_4)) h0 n0) T (mkF m 37 #[.val (.ref a0), .val (.int p1), .val (.int p2), .val (.int p3), .val (.int v37_4)] []) := by
          intro T37j Lc37j X37j e37j N37j v37_4
          refine Owe.step (T' := T37j) (g' := (mkF m 41 #[.val (.ref a0), .val (.int p1), .val (.int p2), .val (.int p3), .val (.int v37_4)] [(.int p3), (.int (p1 + (1 : Int32)))])) (fun t k => ?_) ?_
          · show Steps p.tables e below (T37j.setTop (mkF m 37 #[.val (.ref a0), .val (.int p1), .val (.int p2), .val (.int p3), .val (.int v37_4)] [])) t
            refine XS.iloadN X37j.here hx rfl (hb hby own_d2_37) rfl ?_
            show Steps p.tables e below (T37j.setTop (mkF m 38 #[.val (.ref a0), .val (.int p1), .val (.int p2), .val (.int p3), .val (.int v37_4)] [(.int p1)])) t
            refine XS.iconst X37j.here hx rfl (hb hby own_d2_38) ?_
            show Steps p.tables e below (T37j.setTop (mkF m 39 #[.val (.ref a0), .val (.int p1), .val (.int p2), .val (.int p3), .val (.int v37_4)] [(.int (1 : Int32)), (.int p1)])) t
            refine XS.iadd X37j.here hx rfl (hb hby own_d2_39) rfl ?_
            show Steps p.tables e below (T37j.setTop (mkF m 40 #[.val (.ref a0), .val (.int p1), .val (.int p2), .val (.int p3), .val (.int v37_4)] [(.int (p1 + (1 : Int32)))])) t
            refine XS.iloadN X37j.here hx rfl (hb hby own_d2_40) rfl ?_
            show Steps p.tables e below (T37j.setTop (mkF m 41 #[.val (.ref a0), .val (.int p1), .val (.int p2), .val (.int p3), .val (.int v37_4)] [(.int p3), (.int (p1 + (1 : Int32)))])) t
            exact k
          by_cases hc41 : (p1 + (1 : Int32)) < p3
          · refine Owe.step (T' := T37j) (g' := (mkF m 44 #[.val (.ref a0), .val (.int p1), .val (.int p2), .val (.int p3), .val (.int v37_4)] [])) (fun t k => ?_) ?_
            · show Steps p.tables e below (T37j.setTop (mkF m 41 #[.val (.ref a0), .val (.int p1), .val (.int p2), .val (.int p3), .val (.int v37_4)] [(.int p3), (.int (p1 + (1 : Int32)))])) t
              refine XS.icmpNo X37j.here hx rfl (hb hby own_d2_41) rfl (tlt hc41).2.1 ?_
              show Steps p.tables e below (T37j.setTop (mkF m 44 #[.val (.ref a0), .val (.int p1), .val (.int p2), .val (.int p3), .val (.int v37_4)] [])) t
              exact k
            refine Owe.step (T' := T37j) (g' := (mkF m 49 #[.val (.ref a0), .val (.int p1), .val (.int p2), .val (.int p3), .val (.int v37_4)] [(.int (13 : Int32)), (.int (fn (p1).toNatClampNeg))])) (fun t k => ?_) ?_
            · show Steps p.tables e below (T37j.setTop (mkF m 44 #[.val (.ref a0), .val (.int p1), .val (.int p2), .val (.int p3), .val (.int v37_4)] [])) t
              refine XS.aloadN X37j.here hx rfl (hb hby own_d2_44) rfl rfl ?_
              show Steps p.tables e below (T37j.setTop (mkF m 45 #[.val (.ref a0), .val (.int p1), .val (.int p2), .val (.int p3), .val (.int v37_4)] [(.ref a0)])) t
              refine XS.iloadN X37j.here hx rfl (hb hby own_d2_45) rfl ?_
              show Steps p.tables e below (T37j.setTop (mkF m 46 #[.val (.ref a0), .val (.int p1), .val (.int p2), .val (.int p3), .val (.int v37_4)] [(.int p1), (.ref a0)])) t
              refine ldAB X37j hx hZ e37j A_b (j := p1) hi.1 hi.2 (g := (mkF m 46 #[.val (.ref a0), .val (.int p1), .val (.int p2), .val (.int p3), .val (.int v37_4)] [(.int p1), (.ref a0)])) rfl rfl (hb hby own_d2_46) _ ?_
              show Steps p.tables e below (T37j.setTop (mkF m 47 #[.val (.ref a0), .val (.int p1), .val (.int p2), .val (.int p3), .val (.int v37_4)] [(.int (fn (p1).toNatClampNeg))])) t
              refine XS.bipush X37j.here hx rfl (hb hby own_d2_47) ?_
              show Steps p.tables e below (T37j.setTop (mkF m 49 #[.val (.ref a0), .val (.int p1), .val (.int p2), .val (.int p3), .val (.int v37_4)] [(.int (13 : Int32)), (.int (fn (p1).toNatClampNeg))])) t
              exact k
            by_cases hc49 : (fn (p1).toNatClampNeg) = (13 : Int32)
            · refine Owe.step (T' := T37j) (g' := (mkF m 52 #[.val (.ref a0), .val (.int p1), .val (.int p2), .val (.int p3), .val (.int v37_4)] [])) (fun t k => ?_) ?_
              · show Steps p.tables e below (T37j.setTop (mkF m 49 #[.val (.ref a0), .val (.int p1), .val (.int p2), .val (.int p3), .val (.int v37_4)] [(.int (13 : Int32)), (.int (fn (p1).toNatClampNeg))])) t
                refine XS.icmpNo X37j.here hx rfl (hb hby own_d2_49) rfl (teq hc49).2 ?_
                show Steps p.tables e below (T37j.setTop (mkF m 52 #[.val (.ref a0), .val (.int p1), .val (.int p2), .val (.int p3), .val (.int v37_4)] [])) t
                exact k
              refine Owe.step (T' := T37j) (g' := (mkF m 59 #[.val (.ref a0), .val (.int p1), .val (.int p2), .val (.int p3), .val (.int v37_4)] [(.int (10 : Int32)), (.int (fn ((p1 + (1 : Int32))).toNatClampNeg))])) (fun t k => ?_) ?_
              · show Steps p.tables e below (T37j.setTop (mkF m 52 #[.val (.ref a0), .val (.int p1), .val (.int p2), .val (.int p3), .val (.int v37_4)] [])) t
                refine XS.aloadN X37j.here hx rfl (hb hby own_d2_52) rfl rfl ?_
                show Steps p.tables e below (T37j.setTop (mkF m 53 #[.val (.ref a0), .val (.int p1), .val (.int p2), .val (.int p3), .val (.int v37_4)] [(.ref a0)])) t
                refine XS.iloadN X37j.here hx rfl (hb hby own_d2_53) rfl ?_
                show Steps p.tables e below (T37j.setTop (mkF m 54 #[.val (.ref a0), .val (.int p1), .val (.int p2), .val (.int p3), .val (.int v37_4)] [(.int p1), (.ref a0)])) t
                refine XS.iconst X37j.here hx rfl (hb hby own_d2_54) ?_
                show Steps p.tables e below (T37j.setTop (mkF m 55 #[.val (.ref a0), .val (.int p1), .val (.int p2), .val (.int p3), .val (.int v37_4)] [(.int (1 : Int32)), (.int p1), (.ref a0)])) t
                refine XS.iadd X37j.here hx rfl (hb hby own_d2_55) rfl ?_
                show Steps p.tables e below (T37j.setTop (mkF m 56 #[.val (.ref a0), .val (.int p1), .val (.int p2), .val (.int p3), .val (.int v37_4)] [(.int (p1 + (1 : Int32))), (.ref a0)])) t
                refine ldAB X37j hx hZ e37j A_b (j := (p1 + (1 : Int32))) (own_nx hi ht hc41).1 (own_nx hi ht hc41).2 (g := (mkF m 56 #[.val (.ref a0), .val (.int p1), .val (.int p2), .val (.int p3), .val (.int v37_4)] [(.int (p1 + (1 : Int32))), (.ref a0)])) rfl rfl (hb hby own_d2_56) _ ?_
                show Steps p.tables e below (T37j.setTop (mkF m 57 #[.val (.ref a0), .val (.int p1), .val (.int p2), .val (.int p3), .val (.int v37_4)] [(.int (fn ((p1 + (1 : Int32))).toNatClampNeg))])) t
                refine XS.bipush X37j.here hx rfl (hb hby own_d2_57) ?_
                show Steps p.tables e below (T37j.setTop (mkF m 59 #[.val (.ref a0), .val (.int p1), .val (.int p2), .val (.int p3), .val (.int v37_4)] [(.int (10 : Int32)), (.int (fn ((p1 + (1 : Int32))).toNatClampNeg))])) t
                exact k
              by_cases hc59 : (fn ((p1 + (1 : Int32))).toNatClampNeg) = (10 : Int32)
              · refine Owe.step (T' := T37j) (g' := (mkF m 62 #[.val (.ref a0), .val (.int p1), .val (.int p2), .val (.int p3), .val (.int v37_4)] [])) (fun t k => ?_) ?_
                · show Steps p.tables e below (T37j.setTop (mkF m 59 #[.val (.ref a0), .val (.int p1), .val (.int p2), .val (.int p3), .val (.int v37_4)] [(.int (10 : Int32)), (.int (fn ((p1 + (1 : Int32))).toNatClampNeg))])) t
                  refine XS.icmpNo X37j.here hx rfl (hb hby own_d2_59) rfl (teq hc59).2 ?_
                  show Steps p.tables e below (T37j.setTop (mkF m 62 #[.val (.ref a0), .val (.int p1), .val (.int p2), .val (.int p3), .val (.int v37_4)] [])) t
                  exact k
                rw [show own_f2_37 p1 p3 fn v37_4 = (v37_4 + (-1 : Int32)) from (by rw [own_f2_37, if_pos hc41, if_pos hc49, if_pos hc59])]
                refine Owe.ret X37j Bd.notSynchronized (v := (some (.int (v37_4 + (-1 : Int32))))) (fun h => by rw [Bd.returns] at h; cases h) (fun fs hr => ?_) ⟨rfl, N37j, e37j⟩ (by decide) (by decide)
                show Steps p.tables e below (T37j.setTop (mkF m 62 #[.val (.ref a0), .val (.int p1), .val (.int p2), .val (.int p3), .val (.int v37_4)] [])) _
                refine XS.iinc X37j.here hx rfl (hb hby own_d2_62) rfl (l' := #[.val (.ref a0), .val (.int p1), .val (.int p2), .val (.int p3), .val (.int (v37_4 + (-1 : Int32)))]) rfl ?_
                show Steps p.tables e below (T37j.setTop (mkF m 65 #[.val (.ref a0), .val (.int p1), .val (.int p2), .val (.int p3), .val (.int (v37_4 + (-1 : Int32)))] [])) _
                refine XS.iload X37j.here hx rfl (hb hby own_d2_65) rfl ?_
                show Steps p.tables e below (T37j.setTop (mkF m 67 #[.val (.ref a0), .val (.int p1), .val (.int p2), .val (.int p3), .val (.int (v37_4 + (-1 : Int32)))] [(.int (v37_4 + (-1 : Int32)))])) _
                exact retI X37j hx Bd.returns (hb hby own_d2_67) hr
              · refine Owe.step (T' := T37j) (g' := (mkF m 65 #[.val (.ref a0), .val (.int p1), .val (.int p2), .val (.int p3), .val (.int v37_4)] [])) (fun t k => ?_) ?_
                · show Steps p.tables e below (T37j.setTop (mkF m 59 #[.val (.ref a0), .val (.int p1), .val (.int p2), .val (.int p3), .val (.int v37_4)] [(.int (10 : Int32)), (.int (fn ((p1 + (1 : Int32))).toNatClampNeg))])) t
                  refine XS.icmpYes X37j.here hx rfl (pc0 := 59) (pc' := 65) rfl (hb hby own_d2_59) rfl (feq hc59).2 (by decide) (by decide) ?_
                  show Steps p.tables e below (T37j.setTop (mkF m 65 #[.val (.ref a0), .val (.int p1), .val (.int p2), .val (.int p3), .val (.int v37_4)] [])) t
                  exact k
                rw [show own_f2_37 p1 p3 fn v37_4 = v37_4 from (by rw [own_f2_37, if_pos hc41, if_pos hc49, if_neg hc59])]
                refine Owe.ret X37j Bd.notSynchronized (v := (some (.int v37_4))) (fun h => by rw [Bd.returns] at h; cases h) (fun fs hr => ?_) ⟨rfl, N37j, e37j⟩ (by decide) (by decide)
                show Steps p.tables e below (T37j.setTop (mkF m 65 #[.val (.ref a0), .val (.int p1), .val (.int p2), .val (.int p3), .val (.int v37_4)] [])) _
                refine XS.iload X37j.here hx rfl (hb hby own_d2_65) rfl ?_
                show Steps p.tables e below (T37j.setTop (mkF m 67 #[.val (.ref a0), .val (.int p1), .val (.int p2), .val (.int p3), .val (.int v37_4)] [(.int v37_4)])) _
                exact retI X37j hx Bd.returns (hb hby own_d2_67) hr
            · refine Owe.step (T' := T37j) (g' := (mkF m 65 #[.val (.ref a0), .val (.int p1), .val (.int p2), .val (.int p3), .val (.int v37_4)] [])) (fun t k => ?_) ?_
              · show Steps p.tables e below (T37j.setTop (mkF m 49 #[.val (.ref a0), .val (.int p1), .val (.int p2), .val (.int p3), .val (.int v37_4)] [(.int (13 : Int32)), (.int (fn (p1).toNatClampNeg))])) t
                refine XS.icmpYes X37j.here hx rfl (pc0 := 49) (pc' := 65) rfl (hb hby own_d2_49) rfl (feq hc49).2 (by decide) (by decide) ?_
                show Steps p.tables e below (T37j.setTop (mkF m 65 #[.val (.ref a0), .val (.int p1), .val (.int p2), .val (.int p3), .val (.int v37_4)] [])) t
                exact k
              rw [show own_f2_37 p1 p3 fn v37_4 = v37_4 from (by rw [own_f2_37, if_pos hc41, if_neg hc49])]
              refine Owe.ret X37j Bd.notSynchronized (v := (some (.int v37_4))) (fun h => by rw [Bd.returns] at h; cases h) (fun fs hr => ?_) ⟨rfl, N37j, e37j⟩ (by decide) (by decide)
              show Steps p.tables e below (T37j.setTop (mkF m 65 #[.val (.ref a0), .val (.int p1), .val (.int p2), .val (.int p3), .val (.int v37_4)] [])) _
              refine XS.iload X37j.here hx rfl (hb hby own_d2_65) rfl ?_
              show Steps p.tables e below (T37j.setTop (mkF m 67 #[.val (.ref a0), .val (.int p1), .val (.int p2), .val (.int p3), .val (.int v37_4)] [(.int v37_4)])) _
              exact retI X37j hx Bd.returns (hb hby own_d2_67) hr
          · refine Owe.step (T' := T37j) (g' := (mkF m 65 #[.val (.ref a0), .val (.int p1), .val (.int p2), .val (.int p3), .val (.int v37_4)] [])) (fun t k => ?_) ?_
            · show Steps p.tables e below (T37j.setTop (mkF m 41 #[.val (.ref a0), .val (.int p1), .val (.int p2), .val (.int p3), .val (.int v37_4)] [(.int p3), (.int (p1 + (1 : Int32)))])) t
              refine XS.icmpYes X37j.here hx rfl (pc0 := 41) (pc' := 65) rfl (hb hby own_d2_41) rfl (flt hc41).2.1 (by decide) (by decide) ?_
              show Steps p.tables e below (T37j.setTop (mkF m 65 #[.val (.ref a0), .val (.int p1), .val (.int p2), .val (.int p3), .val (.int v37_4)] [])) t
              exact k
            rw [show own_f2_37 p1 p3 fn v37_4 = v37_4 from (by rw [own_f2_37, if_neg hc41])]
            refine Owe.ret X37j Bd.notSynchronized (v := (some (.int v37_4))) (fun h => by rw [Bd.returns] at h; cases h) (fun fs hr => ?_) ⟨rfl, N37j, e37j⟩ (by decide) (by decide)
            show Steps p.tables e below (T37j.setTop (mkF m 65 #[.val (.ref a0), .val (.int p1), .val (.int p2), .val (.int p3), .val (.int v37_4)] [])) _
            refine XS.iload X37j.here hx rfl (hb hby own_d2_65) rfl ?_
            show Steps p.tables e below (T37j.setTop (mkF m 67 #[.val (.ref a0), .val (.int p1), .val (.int p2), .val (.int p3), .val (.int v37_4)] [(.int v37_4)])) _
            exact retI X37j hx Bd.returns (hb hby own_d2_67) hr
        by_cases hc31 : (fn (p1).toNatClampNeg) = (13 : Int32)
        · refine Owe.step (T' := T26j) (g' := (mkF m 34 #[.val (.ref a0), .val (.int p1), .val (.int p2), .val (.int p3), .val (.int v26_4)] [])) (fun t k => ?_) ?_
          · show Steps p.tables e below (T26j.setTop (mkF m 31 #[.val (.ref a0), .val (.int p1), .val (.int p2), .val (.int p3), .val (.int v26_4)] [(.int (13 : Int32)), (.int (fn (p1).toNatClampNeg))])) t
            refine XS.icmpNo X26j.here hx rfl (hb hby own_d2_31) rfl (teq hc31).2 ?_
            show Steps p.tables e below (T26j.setTop (mkF m 34 #[.val (.ref a0), .val (.int p1), .val (.int p2), .val (.int p3), .val (.int v26_4)] [])) t
            exact k
          refine Owe.step (T' := T26j) (g' := (mkF m 37 #[.val (.ref a0), .val (.int p1), .val (.int p2), .val (.int p3), .val (.int (v26_4 + (1 : Int32)))] [])) (fun t k => ?_) ?_
          · show Steps p.tables e below (T26j.setTop (mkF m 34 #[.val (.ref a0), .val (.int p1), .val (.int p2), .val (.int p3), .val (.int v26_4)] [])) t
            refine XS.iinc X26j.here hx rfl (hb hby own_d2_34) rfl (l' := #[.val (.ref a0), .val (.int p1), .val (.int p2), .val (.int p3), .val (.int (v26_4 + (1 : Int32)))]) rfl ?_
            show Steps p.tables e below (T26j.setTop (mkF m 37 #[.val (.ref a0), .val (.int p1), .val (.int p2), .val (.int p3), .val (.int (v26_4 + (1 : Int32)))] [])) t
            exact k
          rw [show own_f2_26 p1 p3 fn v26_4 = (own_f2_37 p1 p3 fn (v26_4 + (1 : Int32))) from (by rw [own_f2_26, if_pos hc31])]
          exact j37 T26j _ X26j e26j N26j (v26_4 + (1 : Int32))
        · refine Owe.step (T' := T26j) (g' := (mkF m 37 #[.val (.ref a0), .val (.int p1), .val (.int p2), .val (.int p3), .val (.int v26_4)] [])) (fun t k => ?_) ?_
          · show Steps p.tables e below (T26j.setTop (mkF m 31 #[.val (.ref a0), .val (.int p1), .val (.int p2), .val (.int p3), .val (.int v26_4)] [(.int (13 : Int32)), (.int (fn (p1).toNatClampNeg))])) t
            refine XS.icmpYes X26j.here hx rfl (pc0 := 31) (pc' := 37) rfl (hb hby own_d2_31) rfl (feq hc31).2 (by decide) (by decide) ?_
            show Steps p.tables e below (T26j.setTop (mkF m 37 #[.val (.ref a0), .val (.int p1), .val (.int p2), .val (.int p3), .val (.int v26_4)] [])) t
            exact k
          rw [show own_f2_26 p1 p3 fn v26_4 = (own_f2_37 p1 p3 fn v26_4) from (by rw [own_f2_26, if_neg hc31])]
          exact j37 T26j _ X26j e26j N26j v26_4
      by_cases hc20 : (fn (p1).toNatClampNeg) = (10 : Int32)
      · refine Owe.step (T' := s₁) (g' := (mkF m 23 #[.val (.ref a0), .val (.int p1), .val (.int p2), .val (.int p3), .val (.int (0 : Int32))] [])) (fun t k => ?_) ?_
        · show Steps p.tables e below (s₁.setTop (mkF m 20 #[.val (.ref a0), .val (.int p1), .val (.int p2), .val (.int p3), .val (.int (0 : Int32))] [(.int (10 : Int32)), (.int (fn (p1).toNatClampNeg))])) t
          refine XS.icmpNo X0.here hx rfl (hb hby own_d2_20) rfl (teq hc20).2 ?_
          show Steps p.tables e below (s₁.setTop (mkF m 23 #[.val (.ref a0), .val (.int p1), .val (.int p2), .val (.int p3), .val (.int (0 : Int32))] [])) t
          exact k
        refine Owe.step (T' := s₁) (g' := (mkF m 26 #[.val (.ref a0), .val (.int p1), .val (.int p2), .val (.int p3), .val (.int ((0 : Int32) + (1 : Int32)))] [])) (fun t k => ?_) ?_
        · show Steps p.tables e below (s₁.setTop (mkF m 23 #[.val (.ref a0), .val (.int p1), .val (.int p2), .val (.int p3), .val (.int (0 : Int32))] [])) t
          refine XS.iinc X0.here hx rfl (hb hby own_d2_23) rfl (l' := #[.val (.ref a0), .val (.int p1), .val (.int p2), .val (.int p3), .val (.int ((0 : Int32) + (1 : Int32)))]) rfl ?_
          show Steps p.tables e below (s₁.setTop (mkF m 26 #[.val (.ref a0), .val (.int p1), .val (.int p2), .val (.int p3), .val (.int ((0 : Int32) + (1 : Int32)))] [])) t
          exact k
        rw [show own_f2_0 p1 p2 p3 fn = (own_f2_26 p1 p3 fn ((0 : Int32) + (1 : Int32))) from (by rw [own_f2_0, if_neg hc2, if_pos hc7, if_pos hc20])]
        exact j26 s₁ _ X0 e0 N0 ((0 : Int32) + (1 : Int32))
      · refine Owe.step (T' := s₁) (g' := (mkF m 26 #[.val (.ref a0), .val (.int p1), .val (.int p2), .val (.int p3), .val (.int (0 : Int32))] [])) (fun t k => ?_) ?_
        · show Steps p.tables e below (s₁.setTop (mkF m 20 #[.val (.ref a0), .val (.int p1), .val (.int p2), .val (.int p3), .val (.int (0 : Int32))] [(.int (10 : Int32)), (.int (fn (p1).toNatClampNeg))])) t
          refine XS.icmpYes X0.here hx rfl (pc0 := 20) (pc' := 26) rfl (hb hby own_d2_20) rfl (feq hc20).2 (by decide) (by decide) ?_
          show Steps p.tables e below (s₁.setTop (mkF m 26 #[.val (.ref a0), .val (.int p1), .val (.int p2), .val (.int p3), .val (.int (0 : Int32))] [])) t
          exact k
        rw [show own_f2_0 p1 p2 p3 fn = (own_f2_26 p1 p3 fn (0 : Int32)) from (by rw [own_f2_0, if_neg hc2, if_pos hc7, if_neg hc20])]
        exact j26 s₁ _ X0 e0 N0 (0 : Int32)
    · refine Owe.step (T' := s₁) (g' := (mkF m 10 #[.val (.ref a0), .val (.int p1), .val (.int p2), .val (.int p3), .unset] [])) (fun t k => ?_) ?_
      · show Steps p.tables e below (s₁.setTop (mkF m 7 #[.val (.ref a0), .val (.int p1), .val (.int p2), .val (.int p3), .unset] [(.int p3), (.int p1)])) t
        refine XS.icmpNo X0.here hx rfl (hb hby own_d2_7) rfl (flt hc7).1 ?_
        show Steps p.tables e below (s₁.setTop (mkF m 10 #[.val (.ref a0), .val (.int p1), .val (.int p2), .val (.int p3), .unset] [])) t
        exact k
      rw [show own_f2_0 p1 p2 p3 fn = (0 : Int32) from (by rw [own_f2_0, if_neg hc2, if_neg hc7])]
      refine Owe.ret X0 Bd.notSynchronized (v := (some (.int (0 : Int32)))) (fun h => by rw [Bd.returns] at h; cases h) (fun fs hr => ?_) ⟨rfl, N0, e0⟩ (by decide) (by decide)
      show Steps p.tables e below (s₁.setTop (mkF m 10 #[.val (.ref a0), .val (.int p1), .val (.int p2), .val (.int p3), .unset] [])) _
      refine XS.iconst X0.here hx rfl (hb hby own_d2_10) ?_
      show Steps p.tables e below (s₁.setTop (mkF m 11 #[.val (.ref a0), .val (.int p1), .val (.int p2), .val (.int p3), .unset] [(.int (0 : Int32))])) _
      exact retI X0 hx Bd.returns (hb hby own_d2_11) hr
theorem own_d3_0 : decode prog_15_method_7_code 0 = .ok (.iconst 0, 1) := by decide +kernel
theorem own_d3_1 : decode prog_15_method_7_code 1 = .ok (.istore_n 3, 1) := by decide +kernel
theorem own_d3_2 : decode prog_15_method_7_code 2 = .ok (.iload_n 1, 1) := by decide +kernel
theorem own_d3_3 : decode prog_15_method_7_code 3 = .ok (.istore 4, 2) := by decide +kernel
theorem own_d3_5 : decode prog_15_method_7_code 5 = .ok (.iload 4, 2) := by decide +kernel
theorem own_d3_7 : decode prog_15_method_7_code 7 = .ok (.iload_n 2, 1) := by decide +kernel
theorem own_d3_8 : decode prog_15_method_7_code 8 = .ok (.if_icmp .ge 70, 3) := by decide +kernel
theorem own_d3_11 : decode prog_15_method_7_code 11 = .ok (.aload_n 0, 1) := by decide +kernel
theorem own_d3_12 : decode prog_15_method_7_code 12 = .ok (.iload 4, 2) := by decide +kernel
theorem own_d3_14 : decode prog_15_method_7_code 14 = .ok (.baload, 1) := by decide +kernel
theorem own_d3_15 : decode prog_15_method_7_code 15 = .ok (.bipush 13, 2) := by decide +kernel
theorem own_d3_17 : decode prog_15_method_7_code 17 = .ok (.if_icmp .ne 26, 3) := by decide +kernel
theorem own_d3_20 : decode prog_15_method_7_code 20 = .ok (.iload 4, 2) := by decide +kernel
theorem own_d3_22 : decode prog_15_method_7_code 22 = .ok (.iconst 1, 1) := by decide +kernel
theorem own_d3_23 : decode prog_15_method_7_code 23 = .ok (.iadd, 1) := by decide +kernel
theorem own_d3_24 : decode prog_15_method_7_code 24 = .ok (.iload_n 2, 1) := by decide +kernel
theorem own_d3_25 : decode prog_15_method_7_code 25 = .ok (.if_icmp .ge 18, 3) := by decide +kernel
theorem own_d3_28 : decode prog_15_method_7_code 28 = .ok (.aload_n 0, 1) := by decide +kernel
theorem own_d3_29 : decode prog_15_method_7_code 29 = .ok (.iload 4, 2) := by decide +kernel
theorem own_d3_31 : decode prog_15_method_7_code 31 = .ok (.iconst 1, 1) := by decide +kernel
theorem own_d3_32 : decode prog_15_method_7_code 32 = .ok (.iadd, 1) := by decide +kernel
theorem own_d3_33 : decode prog_15_method_7_code 33 = .ok (.baload, 1) := by decide +kernel
theorem own_d3_34 : decode prog_15_method_7_code 34 = .ok (.bipush 10, 2) := by decide +kernel
theorem own_d3_36 : decode prog_15_method_7_code 36 = .ok (.if_icmp .ne 7, 3) := by decide +kernel
theorem own_d3_39 : decode prog_15_method_7_code 39 = .ok (.iconst 1, 1) := by decide +kernel
theorem own_d3_40 : decode prog_15_method_7_code 40 = .ok (.goto 4, 3) := by decide +kernel
theorem own_d3_43 : decode prog_15_method_7_code 43 = .ok (.iconst 0, 1) := by decide +kernel
theorem own_d3_44 : decode prog_15_method_7_code 44 = .ok (.istore 5, 2) := by decide +kernel
theorem own_d3_46 : decode prog_15_method_7_code 46 = .ok (.aload_n 0, 1) := by decide +kernel
theorem own_d3_47 : decode prog_15_method_7_code 47 = .ok (.iload 4, 2) := by decide +kernel
theorem own_d3_49 : decode prog_15_method_7_code 49 = .ok (.baload, 1) := by decide +kernel
theorem own_d3_50 : decode prog_15_method_7_code 50 = .ok (.bipush 10, 2) := by decide +kernel
theorem own_d3_52 : decode prog_15_method_7_code 52 = .ok (.if_icmp .eq 12, 3) := by decide +kernel
theorem own_d3_55 : decode prog_15_method_7_code 55 = .ok (.aload_n 0, 1) := by decide +kernel
theorem own_d3_56 : decode prog_15_method_7_code 56 = .ok (.iload 4, 2) := by decide +kernel
theorem own_d3_58 : decode prog_15_method_7_code 58 = .ok (.baload, 1) := by decide +kernel
theorem own_d3_59 : decode prog_15_method_7_code 59 = .ok (.bipush 13, 2) := by decide +kernel
theorem own_d3_61 : decode prog_15_method_7_code 61 = .ok (.if_icmp .ne 11, 3) := by decide +kernel
theorem own_d3_64 : decode prog_15_method_7_code 64 = .ok (.iload 5, 2) := by decide +kernel
theorem own_d3_66 : decode prog_15_method_7_code 66 = .ok (.ifCond .ne 6, 3) := by decide +kernel
theorem own_d3_69 : decode prog_15_method_7_code 69 = .ok (.iinc 3 1, 3) := by decide +kernel
theorem own_d3_72 : decode prog_15_method_7_code 72 = .ok (.iinc 4 1, 3) := by decide +kernel
theorem own_d3_75 : decode prog_15_method_7_code 75 = .ok (.goto (-70), 3) := by decide +kernel
theorem own_d3_78 : decode prog_15_method_7_code 78 = .ok (.iload_n 3, 1) := by decide +kernel
theorem own_d3_79 : decode prog_15_method_7_code 79 = .ok (.ireturn, 1) := by decide +kernel
theorem own_st3_44 {z0 : Value} {z1 : Value} {z2 : Value} {z3 : Value} {z4 : Value} {s5_5 : Slot} {v : Int32} (h : One s5_5) : storeLocals #[.val z0, .val z1, .val z2, .val z3, .val z4, s5_5] 5 (.int v) = some #[.val z0, .val z1, .val z2, .val z3, .val z4, .val (.int v)] := by
  rcases h with rfl | ⟨w, rfl, hw⟩
  · rfl
  · cases w <;> first | rfl | (simp [Value.category] at hw)
theorem own_pn1 : plainName "com/example/swapscribe/swapscribe/input/TextFile" = true := by first | (simp [plainName, overriddenIn]; done) | decide +kernel
theorem own_ef3 (m : MethodId) (a0 : Addr) (p1 : Int32) (p2 : Int32) : entryFrame m #[(.ref a0), (.int p1), (.int p2)] 6 = mkF m 0 #[.val (.ref a0), .val (.int p1), .val (.int p2), .unset, .unset, .unset] [] := by first | (simp [entryFrame, mkF, argsToLocals, Value.category]; done) | rfl
def own_f3_72 (v72_3 : Int32) (v5_4 : Int32) (k5 : Int32 → Int32 → Int32) : Int32 := (k5 v72_3 (v5_4 + (1 : Int32)))
def own_f3_64 (t44_0 : Int32) (v5_3 : Int32) (v5_4 : Int32) (k5 : Int32 → Int32 → Int32) : Int32 := (if t44_0 = (0 : Int32) then (own_f3_72 (v5_3 + (1 : Int32)) v5_4 k5) else (own_f3_72 v5_3 v5_4 k5))
def own_f3_44 (fn : Nat → Int32) (t44_0 : Int32) (v5_3 : Int32) (v5_4 : Int32) (k5 : Int32 → Int32 → Int32) : Int32 := (if (fn (v5_4).toNatClampNeg) = (10 : Int32) then (own_f3_64 t44_0 v5_3 v5_4 k5) else (if (fn (v5_4).toNatClampNeg) = (13 : Int32) then (own_f3_64 t44_0 v5_3 v5_4 k5) else (own_f3_72 v5_3 v5_4 k5)))
def own_f3_43 (fn : Nat → Int32) (v5_3 : Int32) (v5_4 : Int32) (k5 : Int32 → Int32 → Int32) : Int32 := (own_f3_44 fn (0 : Int32) v5_3 v5_4 k5)
def own_f3_5 (p2 : Int32) (fn : Nat → Int32) : Nat → Int32 → Int32 → Int32
  | 0 => fun v5_3 v5_4 => v5_3
  | n + 1 => fun v5_3 v5_4 => (if v5_4 < p2 then (if (fn (v5_4).toNatClampNeg) = (13 : Int32) then (if (v5_4 + (1 : Int32)) < p2 then (if (fn ((v5_4 + (1 : Int32))).toNatClampNeg) = (10 : Int32) then (own_f3_44 fn (1 : Int32) v5_3 v5_4 (own_f3_5 p2 fn n)) else (own_f3_43 fn v5_3 v5_4 (own_f3_5 p2 fn n))) else (own_f3_43 fn v5_3 v5_4 (own_f3_5 p2 fn n))) else (own_f3_43 fn v5_3 v5_4 (own_f3_5 p2 fn n))) else v5_3)
theorem own_f3_5z (p2 : Int32) (fn : Nat → Int32) (v5_3 : Int32) (v5_4 : Int32) : own_f3_5 p2 fn 0 v5_3 v5_4 = v5_3 := rfl
theorem own_f3_5s (p2 : Int32) (fn : Nat → Int32) (n : Nat) (v5_3 : Int32) (v5_4 : Int32) : own_f3_5 p2 fn (n + 1) v5_3 v5_4 = (if v5_4 < p2 then (if (fn (v5_4).toNatClampNeg) = (13 : Int32) then (if (v5_4 + (1 : Int32)) < p2 then (if (fn ((v5_4 + (1 : Int32))).toNatClampNeg) = (10 : Int32) then (own_f3_44 fn (1 : Int32) v5_3 v5_4 (own_f3_5 p2 fn n)) else (own_f3_43 fn v5_3 v5_4 (own_f3_5 p2 fn n))) else (own_f3_43 fn v5_3 v5_4 (own_f3_5 p2 fn n))) else (own_f3_43 fn v5_3 v5_4 (own_f3_5 p2 fn n))) else v5_3) := rfl
def own_f3_0 (p1 : Int32) (p2 : Int32) (fn : Nat → Int32) : Int32 := (own_f3_5 p2 fn 6 (0 : Int32) p1)
set_option maxRecDepth 65536 in
set_option maxHeartbeats 40000000 in
theorem own_rm3 (l : Launch) (Z : State) (aA : Array Value) (hw : ∀ d ∈ tables_1, d.before aA Z = true) (ws : List Jvm.Cond) (a0 : Addr) (p1 : Int32) (p2 : Int32) (fn : Nat → Int32) (h0 : Heap) (n0 : Nat) (Z0 : n0 ≤ h0.size) (A_b : AI Z h0 a0 .byte 6 fn) (hf : 0 ≤ p1.toInt) (ht : p2.toInt ≤ 6) :
    MetFree l (⟨"com/example/swapscribe/swapscribe/input/TextFile", "lineEnds", "([BII)I"⟩ : MethodName) (head1 (Jvm.Cond.code (⟨"com/example/swapscribe/swapscribe/input/TextFile", "lineEnds", "([BII)I"⟩ : MethodName) prog_15_method_7_code 6 (some .int) :: ws) ({ frames := 0, cells := 0, slots := 0, locals := 0 } : Room)) (fun a U => a = #[(.ref a0), (.int p1), (.int p2)] ∧ Z.Warmed39 U.vm ∧ U.heap = h0) (fun _ _ _ _ _ => True) (fun _ U o U' => ∃ v L, o = .returned v ∧ (QP (.int (own_f3_0 p1 p2 fn)) h0 n0) v U'.heap L ∧ FrameEnd U o U' L ({ frames := 0, cells := 0, slots := 0, locals := 0 } : Room).cells ({ frames := 0, cells := 0, slots := 0, locals := 0 } : Room).slots) := by
  refine MetFree.of_bodySF (plainFor_of_name own_pn1) hisR ?_
  intro p e s m args below meth c s₁ Bd hml0 hP hK
  obtain ⟨rfl, hZ, hh⟩ := hP
  have hx := Bd.exec
  have hby := Bd.bytes
  have hml : c.maxLocals = 6 := hml0
  have hown : s.vm.findClass "com/example/swapscribe/swapscribe/input/TextFile" = some m.cls := findClass_of_methodNamed Bd.named
  have hnm := (name_of_methodNamed Bd.named Bd.method).1
  have X0 : Stand p l e ({ frames := 0, cells := 0, slots := 0, locals := 0 } : Room) s m #[(.ref a0), (.int p1), (.int p2)] below meth c s₁ [] 0 0 := Stand.of_body Bd
  have e0 : s₁.heap = h0 := by rw [← hh, Bd.state]; rfl
  have N0 := Fr.nil n0
  refine Owe.step (T := s₁) (T' := s₁) (g' := (mkF m 0 #[.val (.ref a0), .val (.int p1), .val (.int p2), .unset, .unset, .unset] [])) (fun t k => castTop (own_ef3 m a0 p1 p2) k) ?_
  refine Owe.step (T' := s₁) (g' := (mkF m 5 #[.val (.ref a0), .val (.int p1), .val (.int p2), .val (.int (0 : Int32)), .val (.int p1), .unset] [])) (fun t k => ?_) ?_
  · show Steps p.tables e below (s₁.setTop (mkF m 0 #[.val (.ref a0), .val (.int p1), .val (.int p2), .unset, .unset, .unset] [])) t
    refine XS.iconst X0.here hx rfl (hb hby own_d3_0) ?_
    show Steps p.tables e below (s₁.setTop (mkF m 1 #[.val (.ref a0), .val (.int p1), .val (.int p2), .unset, .unset, .unset] [(.int (0 : Int32))])) t
    refine XS.istoreN X0.here hx rfl (hb hby own_d3_1) rfl (l' := #[.val (.ref a0), .val (.int p1), .val (.int p2), .val (.int (0 : Int32)), .unset, .unset]) rfl ?_
    show Steps p.tables e below (s₁.setTop (mkF m 2 #[.val (.ref a0), .val (.int p1), .val (.int p2), .val (.int (0 : Int32)), .unset, .unset] [])) t
    refine XS.iloadN X0.here hx rfl (hb hby own_d3_2) rfl ?_
    show Steps p.tables e below (s₁.setTop (mkF m 3 #[.val (.ref a0), .val (.int p1), .val (.int p2), .val (.int (0 : Int32)), .unset, .unset] [(.int p1)])) t
    refine XS.istore X0.here hx rfl (hb hby own_d3_3) rfl (l' := #[.val (.ref a0), .val (.int p1), .val (.int p2), .val (.int (0 : Int32)), .val (.int p1), .unset]) rfl ?_
    show Steps p.tables e below (s₁.setTop (mkF m 5 #[.val (.ref a0), .val (.int p1), .val (.int p2), .val (.int (0 : Int32)), .val (.int p1), .unset] [])) t
    exact k
  have j5 : ∀ (n : Nat) (T : State) (Lc : List Loc) (X : Stand p l e ({ frames := 0, cells := 0, slots := 0, locals := 0 } : Room) s m #[(.ref a0), (.int p1), (.int p2)] below meth c T Lc 0 0) (eT : T.heap = h0) (N : Fr n0 Lc) (v5_3 : Int32) (v5_4 : Int32) (s5_5 : Slot) (H_s5_5 : One s5_5) (hv : own_inv p2 v5_4 n), Owe p e below s ({ frames := 0, cells := 0, slots := 0, locals := 0 } : Room).cells ({ frames := 0, cells := 0, slots := 0, locals := 0 } : Room).slots (QP (.int (own_f3_5 p2 fn n v5_3 v5_4)) h0 n0) T (mkF m 5 #[.val (.ref a0), .val (.int p1), .val (.int p2), .val (.int v5_3), .val (.int v5_4), s5_5] []) := by
    intro n
    induction n with
    | zero =>
      intro T5j Lc5j X5j e5j N5j v5_3 v5_4 s5_5 H_s5_5 hv
      rw [show own_f3_5 p2 fn 0 v5_3 v5_4 = v5_3 from (by rw [own_f3_5z])]
      refine Owe.ret X5j Bd.notSynchronized (v := (some (.int v5_3))) (fun h => by rw [Bd.returns] at h; cases h) (fun fs hr => ?_) ⟨rfl, N5j, e5j⟩ (by decide) (by decide)
      show Steps p.tables e below (T5j.setTop (mkF m 5 #[.val (.ref a0), .val (.int p1), .val (.int p2), .val (.int v5_3), .val (.int v5_4), s5_5] [])) _
      refine XS.iload X5j.here hx rfl (hb hby own_d3_5) rfl ?_
      show Steps p.tables e below (T5j.setTop (mkF m 7 #[.val (.ref a0), .val (.int p1), .val (.int p2), .val (.int v5_3), .val (.int v5_4), s5_5] [(.int v5_4)])) _
      refine XS.iloadN X5j.here hx rfl (hb hby own_d3_7) rfl ?_
      show Steps p.tables e below (T5j.setTop (mkF m 8 #[.val (.ref a0), .val (.int p1), .val (.int p2), .val (.int v5_3), .val (.int v5_4), s5_5] [(.int p2), (.int v5_4)])) _
      refine XS.icmpYes X5j.here hx rfl (pc0 := 8) (pc' := 78) rfl (hb hby own_d3_8) rfl (flt (own_z hv)).2.1 (by decide) (by decide) ?_
      show Steps p.tables e below (T5j.setTop (mkF m 78 #[.val (.ref a0), .val (.int p1), .val (.int p2), .val (.int v5_3), .val (.int v5_4), s5_5] [])) _
      refine XS.iloadN X5j.here hx rfl (hb hby own_d3_78) rfl ?_
      show Steps p.tables e below (T5j.setTop (mkF m 79 #[.val (.ref a0), .val (.int p1), .val (.int p2), .val (.int v5_3), .val (.int v5_4), s5_5] [(.int v5_3)])) _
      exact retI X5j hx Bd.returns (hb hby own_d3_79) hr
    | succ n ih5 =>
      obtain ⟨k5, ek5⟩ : ∃ z, z = own_f3_5 p2 fn n := ⟨_, rfl⟩
      rw [← ek5] at ih5
      intro T5j Lc5j X5j e5j N5j v5_3 v5_4 s5_5 H_s5_5 hv
      refine Owe.step (T' := T5j) (g' := (mkF m 8 #[.val (.ref a0), .val (.int p1), .val (.int p2), .val (.int v5_3), .val (.int v5_4), s5_5] [(.int p2), (.int v5_4)])) (fun t k => ?_) ?_
      · show Steps p.tables e below (T5j.setTop (mkF m 5 #[.val (.ref a0), .val (.int p1), .val (.int p2), .val (.int v5_3), .val (.int v5_4), s5_5] [])) t
        refine XS.iload X5j.here hx rfl (hb hby own_d3_5) rfl ?_
        show Steps p.tables e below (T5j.setTop (mkF m 7 #[.val (.ref a0), .val (.int p1), .val (.int p2), .val (.int v5_3), .val (.int v5_4), s5_5] [(.int v5_4)])) t
        refine XS.iloadN X5j.here hx rfl (hb hby own_d3_7) rfl ?_
        show Steps p.tables e below (T5j.setTop (mkF m 8 #[.val (.ref a0), .val (.int p1), .val (.int p2), .val (.int v5_3), .val (.int v5_4), s5_5] [(.int p2), (.int v5_4)])) t
        exact k
      by_cases hc8 : v5_4 < p2
      · refine Owe.step (T' := T5j) (g' := (mkF m 11 #[.val (.ref a0), .val (.int p1), .val (.int p2), .val (.int v5_3), .val (.int v5_4), s5_5] [])) (fun t k => ?_) ?_
        · show Steps p.tables e below (T5j.setTop (mkF m 8 #[.val (.ref a0), .val (.int p1), .val (.int p2), .val (.int v5_3), .val (.int v5_4), s5_5] [(.int p2), (.int v5_4)])) t
          refine XS.icmpNo X5j.here hx rfl (hb hby own_d3_8) rfl (tlt hc8).2.1 ?_
          show Steps p.tables e below (T5j.setTop (mkF m 11 #[.val (.ref a0), .val (.int p1), .val (.int p2), .val (.int v5_3), .val (.int v5_4), s5_5] [])) t
          exact k
        refine Owe.step (T' := T5j) (g' := (mkF m 17 #[.val (.ref a0), .val (.int p1), .val (.int p2), .val (.int v5_3), .val (.int v5_4), s5_5] [(.int (13 : Int32)), (.int (fn (v5_4).toNatClampNeg))])) (fun t k => ?_) ?_
        · show Steps p.tables e below (T5j.setTop (mkF m 11 #[.val (.ref a0), .val (.int p1), .val (.int p2), .val (.int v5_3), .val (.int v5_4), s5_5] [])) t
          refine XS.aloadN X5j.here hx rfl (hb hby own_d3_11) rfl rfl ?_
          show Steps p.tables e below (T5j.setTop (mkF m 12 #[.val (.ref a0), .val (.int p1), .val (.int p2), .val (.int v5_3), .val (.int v5_4), s5_5] [(.ref a0)])) t
          refine XS.iload X5j.here hx rfl (hb hby own_d3_12) rfl ?_
          show Steps p.tables e below (T5j.setTop (mkF m 14 #[.val (.ref a0), .val (.int p1), .val (.int p2), .val (.int v5_3), .val (.int v5_4), s5_5] [(.int v5_4), (.ref a0)])) t
          refine ldAB X5j hx hZ e5j A_b (j := v5_4) (own_ii hv ht hc8).1 (own_ii hv ht hc8).2 (g := (mkF m 14 #[.val (.ref a0), .val (.int p1), .val (.int p2), .val (.int v5_3), .val (.int v5_4), s5_5] [(.int v5_4), (.ref a0)])) rfl rfl (hb hby own_d3_14) _ ?_
          show Steps p.tables e below (T5j.setTop (mkF m 15 #[.val (.ref a0), .val (.int p1), .val (.int p2), .val (.int v5_3), .val (.int v5_4), s5_5] [(.int (fn (v5_4).toNatClampNeg))])) t
          refine XS.bipush X5j.here hx rfl (hb hby own_d3_15) ?_
          show Steps p.tables e below (T5j.setTop (mkF m 17 #[.val (.ref a0), .val (.int p1), .val (.int p2), .val (.int v5_3), .val (.int v5_4), s5_5] [(.int (13 : Int32)), (.int (fn (v5_4).toNatClampNeg))])) t
          exact k
        have j44 : ∀ (T : State) (Lc : List Loc) (X : Stand p l e ({ frames := 0, cells := 0, slots := 0, locals := 0 } : Room) s m #[(.ref a0), (.int p1), (.int p2)] below meth c T Lc 0 0) (eT : T.heap = h0) (N : Fr n0 Lc) (t44_0 : Int32), Owe p e below s ({ frames := 0, cells := 0, slots := 0, locals := 0 } : Room).cells ({ frames := 0, cells := 0, slots := 0, locals := 0 } : Room).slots (QP (.int (own_f3_44 fn t44_0 v5_3 v5_4 k5)) h0 n0) T (mkF m 44 #[.val (.ref a0), .val (.int p1), .val (.int p2), .val (.int v5_3), .val (.int v5_4), s5_5] [(.int t44_0)]) := by
          intro T44j Lc44j X44j e44j N44j t44_0
          refine Owe.step (T' := T44j) (g' := (mkF m 52 #[.val (.ref a0), .val (.int p1), .val (.int p2), .val (.int v5_3), .val (.int v5_4), .val (.int t44_0)] [(.int (10 : Int32)), (.int (fn (v5_4).toNatClampNeg))])) (fun t k => ?_) ?_
          · show Steps p.tables e below (T44j.setTop (mkF m 44 #[.val (.ref a0), .val (.int p1), .val (.int p2), .val (.int v5_3), .val (.int v5_4), s5_5] [(.int t44_0)])) t
            refine XS.istore X44j.here hx rfl (hb hby own_d3_44) rfl (l' := #[.val (.ref a0), .val (.int p1), .val (.int p2), .val (.int v5_3), .val (.int v5_4), .val (.int t44_0)]) (own_st3_44 H_s5_5) ?_
            show Steps p.tables e below (T44j.setTop (mkF m 46 #[.val (.ref a0), .val (.int p1), .val (.int p2), .val (.int v5_3), .val (.int v5_4), .val (.int t44_0)] [])) t
            refine XS.aloadN X44j.here hx rfl (hb hby own_d3_46) rfl rfl ?_
            show Steps p.tables e below (T44j.setTop (mkF m 47 #[.val (.ref a0), .val (.int p1), .val (.int p2), .val (.int v5_3), .val (.int v5_4), .val (.int t44_0)] [(.ref a0)])) t
            refine XS.iload X44j.here hx rfl (hb hby own_d3_47) rfl ?_
            show Steps p.tables e below (T44j.setTop (mkF m 49 #[.val (.ref a0), .val (.int p1), .val (.int p2), .val (.int v5_3), .val (.int v5_4), .val (.int t44_0)] [(.int v5_4), (.ref a0)])) t
            refine ldAB X44j hx hZ e44j A_b (j := v5_4) (own_ii hv ht hc8).1 (own_ii hv ht hc8).2 (g := (mkF m 49 #[.val (.ref a0), .val (.int p1), .val (.int p2), .val (.int v5_3), .val (.int v5_4), .val (.int t44_0)] [(.int v5_4), (.ref a0)])) rfl rfl (hb hby own_d3_49) _ ?_
            show Steps p.tables e below (T44j.setTop (mkF m 50 #[.val (.ref a0), .val (.int p1), .val (.int p2), .val (.int v5_3), .val (.int v5_4), .val (.int t44_0)] [(.int (fn (v5_4).toNatClampNeg))])) t
            refine XS.bipush X44j.here hx rfl (hb hby own_d3_50) ?_
            show Steps p.tables e below (T44j.setTop (mkF m 52 #[.val (.ref a0), .val (.int p1), .val (.int p2), .val (.int v5_3), .val (.int v5_4), .val (.int t44_0)] [(.int (10 : Int32)), (.int (fn (v5_4).toNatClampNeg))])) t
            exact k
          have j72 : ∀ (T : State) (Lc : List Loc) (X : Stand p l e ({ frames := 0, cells := 0, slots := 0, locals := 0 } : Room) s m #[(.ref a0), (.int p1), (.int p2)] below meth c T Lc 0 0) (eT : T.heap = h0) (N : Fr n0 Lc) (v72_3 : Int32), Owe p e below s ({ frames := 0, cells := 0, slots := 0, locals := 0 } : Room).cells ({ frames := 0, cells := 0, slots := 0, locals := 0 } : Room).slots (QP (.int (own_f3_72 v72_3 v5_4 k5)) h0 n0) T (mkF m 72 #[.val (.ref a0), .val (.int p1), .val (.int p2), .val (.int v72_3), .val (.int v5_4), .val (.int t44_0)] []) := by
            intro T72j Lc72j X72j e72j N72j v72_3
            refine Owe.step (T' := T72j) (g' := (mkF m 5 #[.val (.ref a0), .val (.int p1), .val (.int p2), .val (.int v72_3), .val (.int (v5_4 + (1 : Int32))), .val (.int t44_0)] [])) (fun t k => ?_) ?_
            · show Steps p.tables e below (T72j.setTop (mkF m 72 #[.val (.ref a0), .val (.int p1), .val (.int p2), .val (.int v72_3), .val (.int v5_4), .val (.int t44_0)] [])) t
              refine XS.iinc X72j.here hx rfl (hb hby own_d3_72) rfl (l' := #[.val (.ref a0), .val (.int p1), .val (.int p2), .val (.int v72_3), .val (.int (v5_4 + (1 : Int32))), .val (.int t44_0)]) rfl ?_
              show Steps p.tables e below (T72j.setTop (mkF m 75 #[.val (.ref a0), .val (.int p1), .val (.int p2), .val (.int v72_3), .val (.int (v5_4 + (1 : Int32))), .val (.int t44_0)] [])) t
              refine XS.goto X72j.here hx rfl (pc0 := 75) (pc' := 5) rfl (hb hby own_d3_75) (by decide) (by decide) ?_
              show Steps p.tables e below (T72j.setTop (mkF m 5 #[.val (.ref a0), .val (.int p1), .val (.int p2), .val (.int v72_3), .val (.int (v5_4 + (1 : Int32))), .val (.int t44_0)] [])) t
              exact k
            rw [show own_f3_72 v72_3 v5_4 k5 = (k5 v72_3 (v5_4 + (1 : Int32))) from rfl]
            exact ih5 T72j _ X72j e72j N72j v72_3 (v5_4 + (1 : Int32)) (.val (.int t44_0)) (by first | exact One.u | exact One.val rfl) (own_v1 hv ht hc8)
          have j64 : ∀ (T : State) (Lc : List Loc) (X : Stand p l e ({ frames := 0, cells := 0, slots := 0, locals := 0 } : Room) s m #[(.ref a0), (.int p1), (.int p2)] below meth c T Lc 0 0) (eT : T.heap = h0) (N : Fr n0 Lc), Owe p e below s ({ frames := 0, cells := 0, slots := 0, locals := 0 } : Room).cells ({ frames := 0, cells := 0, slots := 0, locals := 0 } : Room).slots (QP (.int (own_f3_64 t44_0 v5_3 v5_4 k5)) h0 n0) T (mkF m 64 #[.val (.ref a0), .val (.int p1), .val (.int p2), .val (.int v5_3), .val (.int v5_4), .val (.int t44_0)] []) := by
            intro T64j Lc64j X64j e64j N64j
            refine Owe.step (T' := T64j) (g' := (mkF m 66 #[.val (.ref a0), .val (.int p1), .val (.int p2), .val (.int v5_3), .val (.int v5_4), .val (.int t44_0)] [(.int t44_0)])) (fun t k => ?_) ?_
            · show Steps p.tables e below (T64j.setTop (mkF m 64 #[.val (.ref a0), .val (.int p1), .val (.int p2), .val (.int v5_3), .val (.int v5_4), .val (.int t44_0)] [])) t
              refine XS.iload X64j.here hx rfl (hb hby own_d3_64) rfl ?_
              show Steps p.tables e below (T64j.setTop (mkF m 66 #[.val (.ref a0), .val (.int p1), .val (.int p2), .val (.int v5_3), .val (.int v5_4), .val (.int t44_0)] [(.int t44_0)])) t
              exact k
            by_cases hc66 : t44_0 = (0 : Int32)
            · refine Owe.step (T' := T64j) (g' := (mkF m 69 #[.val (.ref a0), .val (.int p1), .val (.int p2), .val (.int v5_3), .val (.int v5_4), .val (.int t44_0)] [])) (fun t k => ?_) ?_
              · show Steps p.tables e below (T64j.setTop (mkF m 66 #[.val (.ref a0), .val (.int p1), .val (.int p2), .val (.int v5_3), .val (.int v5_4), .val (.int t44_0)] [(.int t44_0)])) t
                refine XS.ifNo X64j.here hx rfl (hb hby own_d3_66) rfl ((if0 _ _).trans (teq hc66).2) ?_
                show Steps p.tables e below (T64j.setTop (mkF m 69 #[.val (.ref a0), .val (.int p1), .val (.int p2), .val (.int v5_3), .val (.int v5_4), .val (.int t44_0)] [])) t
                exact k
              refine Owe.step (T' := T64j) (g' := (mkF m 72 #[.val (.ref a0), .val (.int p1), .val (.int p2), .val (.int (v5_3 + (1 : Int32))), .val (.int v5_4), .val (.int t44_0)] [])) (fun t k => ?_) ?_
              · show Steps p.tables e below (T64j.setTop (mkF m 69 #[.val (.ref a0), .val (.int p1), .val (.int p2), .val (.int v5_3), .val (.int v5_4), .val (.int t44_0)] [])) t
                refine XS.iinc X64j.here hx rfl (hb hby own_d3_69) rfl (l' := #[.val (.ref a0), .val (.int p1), .val (.int p2), .val (.int (v5_3 + (1 : Int32))), .val (.int v5_4), .val (.int t44_0)]) rfl ?_
                show Steps p.tables e below (T64j.setTop (mkF m 72 #[.val (.ref a0), .val (.int p1), .val (.int p2), .val (.int (v5_3 + (1 : Int32))), .val (.int v5_4), .val (.int t44_0)] [])) t
                exact k
              rw [show own_f3_64 t44_0 v5_3 v5_4 k5 = (own_f3_72 (v5_3 + (1 : Int32)) v5_4 k5) from (by rw [own_f3_64, if_pos hc66])]
              exact j72 T64j _ X64j e64j N64j (v5_3 + (1 : Int32))
            · refine Owe.step (T' := T64j) (g' := (mkF m 72 #[.val (.ref a0), .val (.int p1), .val (.int p2), .val (.int v5_3), .val (.int v5_4), .val (.int t44_0)] [])) (fun t k => ?_) ?_
              · show Steps p.tables e below (T64j.setTop (mkF m 66 #[.val (.ref a0), .val (.int p1), .val (.int p2), .val (.int v5_3), .val (.int v5_4), .val (.int t44_0)] [(.int t44_0)])) t
                refine XS.ifYes X64j.here hx rfl (pc0 := 66) (pc' := 72) rfl (hb hby own_d3_66) rfl ((if0 _ _).trans (feq hc66).2) (by decide) (by decide) ?_
                show Steps p.tables e below (T64j.setTop (mkF m 72 #[.val (.ref a0), .val (.int p1), .val (.int p2), .val (.int v5_3), .val (.int v5_4), .val (.int t44_0)] [])) t
                exact k
              rw [show own_f3_64 t44_0 v5_3 v5_4 k5 = (own_f3_72 v5_3 v5_4 k5) from (by rw [own_f3_64, if_neg hc66])]
              exact j72 T64j _ X64j e64j N64j v5_3
          by_cases hc52 : (fn (v5_4).toNatClampNeg) = (10 : Int32)
          · refine Owe.step (T' := T44j) (g' := (mkF m 64 #[.val (.ref a0), .val (.int p1), .val (.int p2), .val (.int v5_3), .val (.int v5_4), .val (.int t44_0)] [])) (fun t k => ?_) ?_
            · show Steps p.tables e below (T44j.setTop (mkF m 52 #[.val (.ref a0), .val (.int p1), .val (.int p2), .val (.int v5_3), .val (.int v5_4), .val (.int t44_0)] [(.int (10 : Int32)), (.int (fn (v5_4).toNatClampNeg))])) t
              refine XS.icmpYes X44j.here hx rfl (pc0 := 52) (pc' := 64) rfl (hb hby own_d3_52) rfl (teq hc52).1 (by decide) (by decide) ?_
              show Steps p.tables e below (T44j.setTop (mkF m 64 #[.val (.ref a0), .val (.int p1), .val (.int p2), .val (.int v5_3), .val (.int v5_4), .val (.int t44_0)] [])) t
              exact k
            rw [show own_f3_44 fn t44_0 v5_3 v5_4 k5 = (own_f3_64 t44_0 v5_3 v5_4 k5) from (by rw [own_f3_44, if_pos hc52])]
            exact j64 T44j _ X44j e44j N44j
          · refine Owe.step (T' := T44j) (g' := (mkF m 55 #[.val (.ref a0), .val (.int p1), .val (.int p2), .val (.int v5_3), .val (.int v5_4), .val (.int t44_0)] [])) (fun t k => ?_) ?_
            · show Steps p.tables e below (T44j.setTop (mkF m 52 #[.val (.ref a0), .val (.int p1), .val (.int p2), .val (.int v5_3), .val (.int v5_4), .val (.int t44_0)] [(.int (10 : Int32)), (.int (fn (v5_4).toNatClampNeg))])) t
              refine XS.icmpNo X44j.here hx rfl (hb hby own_d3_52) rfl (feq hc52).1 ?_
              show Steps p.tables e below (T44j.setTop (mkF m 55 #[.val (.ref a0), .val (.int p1), .val (.int p2), .val (.int v5_3), .val (.int v5_4), .val (.int t44_0)] [])) t
              exact k
            refine Owe.step (T' := T44j) (g' := (mkF m 61 #[.val (.ref a0), .val (.int p1), .val (.int p2), .val (.int v5_3), .val (.int v5_4), .val (.int t44_0)] [(.int (13 : Int32)), (.int (fn (v5_4).toNatClampNeg))])) (fun t k => ?_) ?_
            · show Steps p.tables e below (T44j.setTop (mkF m 55 #[.val (.ref a0), .val (.int p1), .val (.int p2), .val (.int v5_3), .val (.int v5_4), .val (.int t44_0)] [])) t
              refine XS.aloadN X44j.here hx rfl (hb hby own_d3_55) rfl rfl ?_
              show Steps p.tables e below (T44j.setTop (mkF m 56 #[.val (.ref a0), .val (.int p1), .val (.int p2), .val (.int v5_3), .val (.int v5_4), .val (.int t44_0)] [(.ref a0)])) t
              refine XS.iload X44j.here hx rfl (hb hby own_d3_56) rfl ?_
              show Steps p.tables e below (T44j.setTop (mkF m 58 #[.val (.ref a0), .val (.int p1), .val (.int p2), .val (.int v5_3), .val (.int v5_4), .val (.int t44_0)] [(.int v5_4), (.ref a0)])) t
              refine ldAB X44j hx hZ e44j A_b (j := v5_4) (own_ii hv ht hc8).1 (own_ii hv ht hc8).2 (g := (mkF m 58 #[.val (.ref a0), .val (.int p1), .val (.int p2), .val (.int v5_3), .val (.int v5_4), .val (.int t44_0)] [(.int v5_4), (.ref a0)])) rfl rfl (hb hby own_d3_58) _ ?_
              show Steps p.tables e below (T44j.setTop (mkF m 59 #[.val (.ref a0), .val (.int p1), .val (.int p2), .val (.int v5_3), .val (.int v5_4), .val (.int t44_0)] [(.int (fn (v5_4).toNatClampNeg))])) t
              refine XS.bipush X44j.here hx rfl (hb hby own_d3_59) ?_
              show Steps p.tables e below (T44j.setTop (mkF m 61 #[.val (.ref a0), .val (.int p1), .val (.int p2), .val (.int v5_3), .val (.int v5_4), .val (.int t44_0)] [(.int (13 : Int32)), (.int (fn (v5_4).toNatClampNeg))])) t
              exact k
            by_cases hc61 : (fn (v5_4).toNatClampNeg) = (13 : Int32)
            · refine Owe.step (T' := T44j) (g' := (mkF m 64 #[.val (.ref a0), .val (.int p1), .val (.int p2), .val (.int v5_3), .val (.int v5_4), .val (.int t44_0)] [])) (fun t k => ?_) ?_
              · show Steps p.tables e below (T44j.setTop (mkF m 61 #[.val (.ref a0), .val (.int p1), .val (.int p2), .val (.int v5_3), .val (.int v5_4), .val (.int t44_0)] [(.int (13 : Int32)), (.int (fn (v5_4).toNatClampNeg))])) t
                refine XS.icmpNo X44j.here hx rfl (hb hby own_d3_61) rfl (teq hc61).2 ?_
                show Steps p.tables e below (T44j.setTop (mkF m 64 #[.val (.ref a0), .val (.int p1), .val (.int p2), .val (.int v5_3), .val (.int v5_4), .val (.int t44_0)] [])) t
                exact k
              rw [show own_f3_44 fn t44_0 v5_3 v5_4 k5 = (own_f3_64 t44_0 v5_3 v5_4 k5) from (by rw [own_f3_44, if_neg hc52, if_pos hc61])]
              exact j64 T44j _ X44j e44j N44j
            · refine Owe.step (T' := T44j) (g' := (mkF m 72 #[.val (.ref a0), .val (.int p1), .val (.int p2), .val (.int v5_3), .val (.int v5_4), .val (.int t44_0)] [])) (fun t k => ?_) ?_
              · show Steps p.tables e below (T44j.setTop (mkF m 61 #[.val (.ref a0), .val (.int p1), .val (.int p2), .val (.int v5_3), .val (.int v5_4), .val (.int t44_0)] [(.int (13 : Int32)), (.int (fn (v5_4).toNatClampNeg))])) t
                refine XS.icmpYes X44j.here hx rfl (pc0 := 61) (pc' := 72) rfl (hb hby own_d3_61) rfl (feq hc61).2 (by decide) (by decide) ?_
                show Steps p.tables e below (T44j.setTop (mkF m 72 #[.val (.ref a0), .val (.int p1), .val (.int p2), .val (.int v5_3), .val (.int v5_4), .val (.int t44_0)] [])) t
                exact k
              rw [show own_f3_44 fn t44_0 v5_3 v5_4 k5 = (own_f3_72 v5_3 v5_4 k5) from (by rw [own_f3_44, if_neg hc52, if_neg hc61])]
              exact j72 T44j _ X44j e44j N44j v5_3
        have j43 : ∀ (T : State) (Lc : List Loc) (X : Stand p l e ({ frames := 0, cells := 0, slots := 0, locals := 0 } : Room) s m #[(.ref a0), (.int p1), (.int p2)] below meth c T Lc 0 0) (eT : T.heap = h0) (N : Fr n0 Lc), Owe p e below s ({ frames := 0, cells := 0, slots := 0, locals := 0 } : Room).cells ({ frames := 0, cells := 0, slots := 0, locals := 0 } : Room).slots (QP (.int (own_f3_43 fn v5_3 v5_4 k5)) h0 n0) T (mkF m 43 #[.val (.ref a0), .val (.int p1), .val (.int p2), .val (.int v5_3), .val (.int v5_4), s5_5] []) := by
          intro T43j Lc43j X43j e43j N43j
          refine Owe.step (T' := T43j) (g' := (mkF m 44 #[.val (.ref a0), .val (.int p1), .val (.int p2), .val (.int v5_3), .val (.int v5_4), s5_5] [(.int (0 : Int32))])) (fun t k => ?_) ?_
          · show Steps p.tables e below (T43j.setTop (mkF m 43 #[.val (.ref a0), .val (.int p1), .val (.int p2), .val (.int v5_3), .val (.int v5_4), s5_5] [])) t
            refine XS.iconst X43j.here hx rfl (hb hby own_d3_43) ?_
            show Steps p.tables e below (T43j.setTop (mkF m 44 #[.val (.ref a0), .val (.int p1), .val (.int p2), .val (.int v5_3), .val (.int v5_4), s5_5] [(.int (0 : Int32))])) t
            exact k
          rw [show own_f3_43 fn v5_3 v5_4 k5 = (own_f3_44 fn (0 : Int32) v5_3 v5_4 k5) from rfl]
          exact j44 T43j _ X43j e43j N43j (0 : Int32)
        by_cases hc17 : (fn (v5_4).toNatClampNeg) = (13 : Int32)
        · refine Owe.step (T' := T5j) (g' := (mkF m 20 #[.val (.ref a0), .val (.int p1), .val (.int p2), .val (.int v5_3), .val (.int v5_4), s5_5] [])) (fun t k => ?_) ?_
          · show Steps p.tables e below (T5j.setTop (mkF m 17 #[.val (.ref a0), .val (.int p1), .val (.int p2), .val (.int v5_3), .val (.int v5_4), s5_5] [(.int (13 : Int32)), (.int (fn (v5_4).toNatClampNeg))])) t
            refine XS.icmpNo X5j.here hx rfl (hb hby own_d3_17) rfl (teq hc17).2 ?_
            show Steps p.tables e below (T5j.setTop (mkF m 20 #[.val (.ref a0), .val (.int p1), .val (.int p2), .val (.int v5_3), .val (.int v5_4), s5_5] [])) t
            exact k
          refine Owe.step (T' := T5j) (g' := (mkF m 25 #[.val (.ref a0), .val (.int p1), .val (.int p2), .val (.int v5_3), .val (.int v5_4), s5_5] [(.int p2), (.int (v5_4 + (1 : Int32)))])) (fun t k => ?_) ?_
          · show Steps p.tables e below (T5j.setTop (mkF m 20 #[.val (.ref a0), .val (.int p1), .val (.int p2), .val (.int v5_3), .val (.int v5_4), s5_5] [])) t
            refine XS.iload X5j.here hx rfl (hb hby own_d3_20) rfl ?_
            show Steps p.tables e below (T5j.setTop (mkF m 22 #[.val (.ref a0), .val (.int p1), .val (.int p2), .val (.int v5_3), .val (.int v5_4), s5_5] [(.int v5_4)])) t
            refine XS.iconst X5j.here hx rfl (hb hby own_d3_22) ?_
            show Steps p.tables e below (T5j.setTop (mkF m 23 #[.val (.ref a0), .val (.int p1), .val (.int p2), .val (.int v5_3), .val (.int v5_4), s5_5] [(.int (1 : Int32)), (.int v5_4)])) t
            refine XS.iadd X5j.here hx rfl (hb hby own_d3_23) rfl ?_
            show Steps p.tables e below (T5j.setTop (mkF m 24 #[.val (.ref a0), .val (.int p1), .val (.int p2), .val (.int v5_3), .val (.int v5_4), s5_5] [(.int (v5_4 + (1 : Int32)))])) t
            refine XS.iloadN X5j.here hx rfl (hb hby own_d3_24) rfl ?_
            show Steps p.tables e below (T5j.setTop (mkF m 25 #[.val (.ref a0), .val (.int p1), .val (.int p2), .val (.int v5_3), .val (.int v5_4), s5_5] [(.int p2), (.int (v5_4 + (1 : Int32)))])) t
            exact k
          by_cases hc25 : (v5_4 + (1 : Int32)) < p2
          · refine Owe.step (T' := T5j) (g' := (mkF m 28 #[.val (.ref a0), .val (.int p1), .val (.int p2), .val (.int v5_3), .val (.int v5_4), s5_5] [])) (fun t k => ?_) ?_
            · show Steps p.tables e below (T5j.setTop (mkF m 25 #[.val (.ref a0), .val (.int p1), .val (.int p2), .val (.int v5_3), .val (.int v5_4), s5_5] [(.int p2), (.int (v5_4 + (1 : Int32)))])) t
              refine XS.icmpNo X5j.here hx rfl (hb hby own_d3_25) rfl (tlt hc25).2.1 ?_
              show Steps p.tables e below (T5j.setTop (mkF m 28 #[.val (.ref a0), .val (.int p1), .val (.int p2), .val (.int v5_3), .val (.int v5_4), s5_5] [])) t
              exact k
            refine Owe.step (T' := T5j) (g' := (mkF m 36 #[.val (.ref a0), .val (.int p1), .val (.int p2), .val (.int v5_3), .val (.int v5_4), s5_5] [(.int (10 : Int32)), (.int (fn ((v5_4 + (1 : Int32))).toNatClampNeg))])) (fun t k => ?_) ?_
            · show Steps p.tables e below (T5j.setTop (mkF m 28 #[.val (.ref a0), .val (.int p1), .val (.int p2), .val (.int v5_3), .val (.int v5_4), s5_5] [])) t
              refine XS.aloadN X5j.here hx rfl (hb hby own_d3_28) rfl rfl ?_
              show Steps p.tables e below (T5j.setTop (mkF m 29 #[.val (.ref a0), .val (.int p1), .val (.int p2), .val (.int v5_3), .val (.int v5_4), s5_5] [(.ref a0)])) t
              refine XS.iload X5j.here hx rfl (hb hby own_d3_29) rfl ?_
              show Steps p.tables e below (T5j.setTop (mkF m 31 #[.val (.ref a0), .val (.int p1), .val (.int p2), .val (.int v5_3), .val (.int v5_4), s5_5] [(.int v5_4), (.ref a0)])) t
              refine XS.iconst X5j.here hx rfl (hb hby own_d3_31) ?_
              show Steps p.tables e below (T5j.setTop (mkF m 32 #[.val (.ref a0), .val (.int p1), .val (.int p2), .val (.int v5_3), .val (.int v5_4), s5_5] [(.int (1 : Int32)), (.int v5_4), (.ref a0)])) t
              refine XS.iadd X5j.here hx rfl (hb hby own_d3_32) rfl ?_
              show Steps p.tables e below (T5j.setTop (mkF m 33 #[.val (.ref a0), .val (.int p1), .val (.int p2), .val (.int v5_3), .val (.int v5_4), s5_5] [(.int (v5_4 + (1 : Int32))), (.ref a0)])) t
              refine ldAB X5j hx hZ e5j A_b (j := (v5_4 + (1 : Int32))) (own_nx (own_ii hv ht hc8) ht hc25).1 (own_nx (own_ii hv ht hc8) ht hc25).2 (g := (mkF m 33 #[.val (.ref a0), .val (.int p1), .val (.int p2), .val (.int v5_3), .val (.int v5_4), s5_5] [(.int (v5_4 + (1 : Int32))), (.ref a0)])) rfl rfl (hb hby own_d3_33) _ ?_
              show Steps p.tables e below (T5j.setTop (mkF m 34 #[.val (.ref a0), .val (.int p1), .val (.int p2), .val (.int v5_3), .val (.int v5_4), s5_5] [(.int (fn ((v5_4 + (1 : Int32))).toNatClampNeg))])) t
              refine XS.bipush X5j.here hx rfl (hb hby own_d3_34) ?_
              show Steps p.tables e below (T5j.setTop (mkF m 36 #[.val (.ref a0), .val (.int p1), .val (.int p2), .val (.int v5_3), .val (.int v5_4), s5_5] [(.int (10 : Int32)), (.int (fn ((v5_4 + (1 : Int32))).toNatClampNeg))])) t
              exact k
            by_cases hc36 : (fn ((v5_4 + (1 : Int32))).toNatClampNeg) = (10 : Int32)
            · refine Owe.step (T' := T5j) (g' := (mkF m 39 #[.val (.ref a0), .val (.int p1), .val (.int p2), .val (.int v5_3), .val (.int v5_4), s5_5] [])) (fun t k => ?_) ?_
              · show Steps p.tables e below (T5j.setTop (mkF m 36 #[.val (.ref a0), .val (.int p1), .val (.int p2), .val (.int v5_3), .val (.int v5_4), s5_5] [(.int (10 : Int32)), (.int (fn ((v5_4 + (1 : Int32))).toNatClampNeg))])) t
                refine XS.icmpNo X5j.here hx rfl (hb hby own_d3_36) rfl (teq hc36).2 ?_
                show Steps p.tables e below (T5j.setTop (mkF m 39 #[.val (.ref a0), .val (.int p1), .val (.int p2), .val (.int v5_3), .val (.int v5_4), s5_5] [])) t
                exact k
              refine Owe.step (T' := T5j) (g' := (mkF m 44 #[.val (.ref a0), .val (.int p1), .val (.int p2), .val (.int v5_3), .val (.int v5_4), s5_5] [(.int (1 : Int32))])) (fun t k => ?_) ?_
              · show Steps p.tables e below (T5j.setTop (mkF m 39 #[.val (.ref a0), .val (.int p1), .val (.int p2), .val (.int v5_3), .val (.int v5_4), s5_5] [])) t
                refine XS.iconst X5j.here hx rfl (hb hby own_d3_39) ?_
                show Steps p.tables e below (T5j.setTop (mkF m 40 #[.val (.ref a0), .val (.int p1), .val (.int p2), .val (.int v5_3), .val (.int v5_4), s5_5] [(.int (1 : Int32))])) t
                refine XS.goto X5j.here hx rfl (pc0 := 40) (pc' := 44) rfl (hb hby own_d3_40) (by decide) (by decide) ?_
                show Steps p.tables e below (T5j.setTop (mkF m 44 #[.val (.ref a0), .val (.int p1), .val (.int p2), .val (.int v5_3), .val (.int v5_4), s5_5] [(.int (1 : Int32))])) t
                exact k
              rw [show own_f3_5 p2 fn (n + 1) v5_3 v5_4 = (own_f3_44 fn (1 : Int32) v5_3 v5_4 k5) from (by rw [own_f3_5s, ← ek5, if_pos hc8, if_pos hc17, if_pos hc25, if_pos hc36])]
              exact j44 T5j _ X5j e5j N5j (1 : Int32)
            · refine Owe.step (T' := T5j) (g' := (mkF m 43 #[.val (.ref a0), .val (.int p1), .val (.int p2), .val (.int v5_3), .val (.int v5_4), s5_5] [])) (fun t k => ?_) ?_
              · show Steps p.tables e below (T5j.setTop (mkF m 36 #[.val (.ref a0), .val (.int p1), .val (.int p2), .val (.int v5_3), .val (.int v5_4), s5_5] [(.int (10 : Int32)), (.int (fn ((v5_4 + (1 : Int32))).toNatClampNeg))])) t
                refine XS.icmpYes X5j.here hx rfl (pc0 := 36) (pc' := 43) rfl (hb hby own_d3_36) rfl (feq hc36).2 (by decide) (by decide) ?_
                show Steps p.tables e below (T5j.setTop (mkF m 43 #[.val (.ref a0), .val (.int p1), .val (.int p2), .val (.int v5_3), .val (.int v5_4), s5_5] [])) t
                exact k
              rw [show own_f3_5 p2 fn (n + 1) v5_3 v5_4 = (own_f3_43 fn v5_3 v5_4 k5) from (by rw [own_f3_5s, ← ek5, if_pos hc8, if_pos hc17, if_pos hc25, if_neg hc36])]
              exact j43 T5j _ X5j e5j N5j
          · refine Owe.step (T' := T5j) (g' := (mkF m 43 #[.val (.ref a0), .val (.int p1), .val (.int p2), .val (.int v5_3), .val (.int v5_4), s5_5] [])) (fun t k => ?_) ?_
            · show Steps p.tables e below (T5j.setTop (mkF m 25 #[.val (.ref a0), .val (.int p1), .val (.int p2), .val (.int v5_3), .val (.int v5_4), s5_5] [(.int p2), (.int (v5_4 + (1 : Int32)))])) t
              refine XS.icmpYes X5j.here hx rfl (pc0 := 25) (pc' := 43) rfl (hb hby own_d3_25) rfl (flt hc25).2.1 (by decide) (by decide) ?_
              show Steps p.tables e below (T5j.setTop (mkF m 43 #[.val (.ref a0), .val (.int p1), .val (.int p2), .val (.int v5_3), .val (.int v5_4), s5_5] [])) t
              exact k
            rw [show own_f3_5 p2 fn (n + 1) v5_3 v5_4 = (own_f3_43 fn v5_3 v5_4 k5) from (by rw [own_f3_5s, ← ek5, if_pos hc8, if_pos hc17, if_neg hc25])]
            exact j43 T5j _ X5j e5j N5j
        · refine Owe.step (T' := T5j) (g' := (mkF m 43 #[.val (.ref a0), .val (.int p1), .val (.int p2), .val (.int v5_3), .val (.int v5_4), s5_5] [])) (fun t k => ?_) ?_
          · show Steps p.tables e below (T5j.setTop (mkF m 17 #[.val (.ref a0), .val (.int p1), .val (.int p2), .val (.int v5_3), .val (.int v5_4), s5_5] [(.int (13 : Int32)), (.int (fn (v5_4).toNatClampNeg))])) t
            refine XS.icmpYes X5j.here hx rfl (pc0 := 17) (pc' := 43) rfl (hb hby own_d3_17) rfl (feq hc17).2 (by decide) (by decide) ?_
            show Steps p.tables e below (T5j.setTop (mkF m 43 #[.val (.ref a0), .val (.int p1), .val (.int p2), .val (.int v5_3), .val (.int v5_4), s5_5] [])) t
            exact k
          rw [show own_f3_5 p2 fn (n + 1) v5_3 v5_4 = (own_f3_43 fn v5_3 v5_4 k5) from (by rw [own_f3_5s, ← ek5, if_pos hc8, if_neg hc17])]
          exact j43 T5j _ X5j e5j N5j
      · refine Owe.step (T' := T5j) (g' := (mkF m 78 #[.val (.ref a0), .val (.int p1), .val (.int p2), .val (.int v5_3), .val (.int v5_4), s5_5] [])) (fun t k => ?_) ?_
        · show Steps p.tables e below (T5j.setTop (mkF m 8 #[.val (.ref a0), .val (.int p1), .val (.int p2), .val (.int v5_3), .val (.int v5_4), s5_5] [(.int p2), (.int v5_4)])) t
          refine XS.icmpYes X5j.here hx rfl (pc0 := 8) (pc' := 78) rfl (hb hby own_d3_8) rfl (flt hc8).2.1 (by decide) (by decide) ?_
          show Steps p.tables e below (T5j.setTop (mkF m 78 #[.val (.ref a0), .val (.int p1), .val (.int p2), .val (.int v5_3), .val (.int v5_4), s5_5] [])) t
          exact k
        rw [show own_f3_5 p2 fn (n + 1) v5_3 v5_4 = v5_3 from (by rw [own_f3_5s, ← ek5, if_neg hc8])]
        refine Owe.ret X5j Bd.notSynchronized (v := (some (.int v5_3))) (fun h => by rw [Bd.returns] at h; cases h) (fun fs hr => ?_) ⟨rfl, N5j, e5j⟩ (by decide) (by decide)
        show Steps p.tables e below (T5j.setTop (mkF m 78 #[.val (.ref a0), .val (.int p1), .val (.int p2), .val (.int v5_3), .val (.int v5_4), s5_5] [])) _
        refine XS.iloadN X5j.here hx rfl (hb hby own_d3_78) rfl ?_
        show Steps p.tables e below (T5j.setTop (mkF m 79 #[.val (.ref a0), .val (.int p1), .val (.int p2), .val (.int v5_3), .val (.int v5_4), s5_5] [(.int v5_3)])) _
        exact retI X5j hx Bd.returns (hb hby own_d3_79) hr
  rw [show own_f3_0 p1 p2 fn = (own_f3_5 p2 fn 6 (0 : Int32) p1) from rfl]
  exact j5 6 s₁ _ X0 e0 N0 (0 : Int32) p1 .unset (by first | exact One.u | exact One.val rfl) (own_v0 hf ht)
theorem own_pd0 : parseMethodDescriptor "(IJI)B" = some ⟨[.int, .long, .int], some .byte⟩ := by decide +kernel
theorem own_pd1 : parseMethodDescriptor "([BIII)I" = some ⟨[(.array .byte), .int, .int, .int], some .int⟩ := by decide +kernel
theorem own_pd2 : parseMethodDescriptor "([BII)I" = some ⟨[(.array .byte), .int, .int], some .int⟩ := by decide +kernel
theorem own_ef0 (m : MethodId) (p0 : Int32) (q1 : Int64) (p2 : Int32) (p3 : Int32) : entryFrame m #[(.int p0), (.long q1), (.int p2), (.int p3)] maxLocals = mkF m 0 #[.val (.int p0), .val (.long q1), .second, .val (.int p2), .val (.int p3), .unset, .unset, .unset, .unset] [] := by first | (simp [entryFrame, mkF, argsToLocals, Value.category, maxLocals]; done) | rfl
def own_f0_0 (f13 : Nat → Int32) (fr : Int32) (tt : Int32) : Int32 := (if (own_f3_0 fr tt f13) = ((((((own_f2_0 (0 : Int32) fr tt f13) + (own_f2_0 (1 : Int32) fr tt f13)) + (own_f2_0 (2 : Int32) fr tt f13)) + (own_f2_0 (3 : Int32) fr tt f13)) + (own_f2_0 (4 : Int32) fr tt f13)) + (own_f2_0 (5 : Int32) fr tt f13)) then (1 : Int32) else (0 : Int32))
theorem own_stop {t : Int32} {f : Nat → Int32} {i : Int32} (h : ¬ i < t) : ∀ (n : Nat) (c : Int32), own_f3_5 t f n c i = c
  | 0, c => rfl
  | n + 1, c => by rw [own_f3_5s, if_neg h]
theorem own_step {r t : Int32} {f : Nat → Int32} {i : Int32} (h : i < t) (hr : ¬ i < r) (n : Nat) (c : Int32) : own_f3_5 t f (n + 1) c i = own_f3_5 t f n (c + own_f2_0 i r t f) (i + 1) := by
  rw [own_f3_5s, if_pos h]
  unfold own_f2_0 own_f2_26 own_f2_37 own_f3_43 own_f3_44 own_f3_64 own_f3_72
  rw [if_neg hr, if_pos h]
  have n1 : ¬ ((13 : Int32) = 10) := by decide
  have n2 : ¬ ((1 : Int32) = 0) := by decide
  have e1 : (0 : Int32) + 1 = 1 := by decide
  have e2 : (1 : Int32) + (-1) = 0 := by decide
  by_cases a : f i.toNatClampNeg = 13
  · rw [a]
    by_cases b : i + 1 < t
    · by_cases d : f (i + 1).toNatClampNeg = 10
      · simp only [b, d, n1, n2, e1, e2, if_true, if_false, Int32.add_zero]
      · simp only [b, d, n1, n2, e1, e2, if_true, if_false]
    · simp only [b, n1, n2, e1, e2, if_true, if_false]
  · by_cases g : f i.toNatClampNeg = 10
    · simp only [a, g, n1, n2, e1, if_true, if_false, ite_self]
      by_cases b : i + 1 < t <;> simp [b]
    · simp only [a, g, if_true, if_false, ite_self, Int32.add_zero]
theorem own_down {r t : Int32} {f : Nat → Int32} {k k' S : Int32} {m : Nat} (e : k + 1 = k') (hl : ¬ k < t → ¬ k' < t) (hr : ¬ k < r) (h : ∀ n c, m ≤ n → own_f3_5 t f n c k' = c + S) :
    ∀ n c, m + 1 ≤ n → own_f3_5 t f n c k = c + (own_f2_0 k r t f + S) := by
  intro n c hn
  by_cases a : k < t
  · cases n with
    | zero => omega
    | succ n => rw [own_step a hr, e, h n _ (by omega), Int32.add_assoc]
  · have z : own_f2_0 k r t f = 0 := by unfold own_f2_0; rw [if_neg hr, if_neg a]
    rw [own_stop a, z, Int32.zero_add, ← h m c (Nat.le_refl _), own_stop (hl a)]
theorem own_low {r t : Int32} {f : Nat → Int32} {k : Int32} (h : k < r) : own_f2_0 k r t f = 0 := by unfold own_f2_0; rw [if_pos h]
theorem own_ltj {t : Int32} {k k' : Int32} (h : k.toInt ≤ k'.toInt) : ¬ k < t → ¬ k' < t := by
  rw [Int32.lt_iff_toInt_lt, Int32.lt_iff_toInt_lt]; omega
theorem own_sum (f : Nat → Int32) (r t : Int32) (hr : 0 ≤ r.toInt ∧ r.toInt ≤ 6) (ht : r.toInt ≤ t.toInt ∧ t.toInt ≤ 6) :
    own_f3_0 r t f = ((((((own_f2_0 (0 : Int32) r t f) + (own_f2_0 (1 : Int32) r t f)) + (own_f2_0 (2 : Int32) r t f)) + (own_f2_0 (3 : Int32) r t f)) + (own_f2_0 (4 : Int32) r t f)) + (own_f2_0 (5 : Int32) r t f)) := by
  have t6 : ∀ n c, 0 ≤ n → own_f3_5 t f n c 6 = c + 0 := fun n c _ => by
    rw [own_stop (by rw [Int32.lt_iff_toInt_lt, show (6 : Int32).toInt = 6 from rfl]; omega), Int32.add_zero]
  have u5 : ¬ (5 : Int32) < r → _ := fun q => own_down (k := 5) (k' := 6) (r := r) (by decide) (own_ltj (by decide)) q t6
  have u4 : ¬ (4 : Int32) < r → ¬ (5 : Int32) < r → _ := fun q p => own_down (k := 4) (k' := 5) (r := r) (by decide) (own_ltj (by decide)) q (u5 p)
  have u3 : ¬ (3 : Int32) < r → ¬ (4 : Int32) < r → ¬ (5 : Int32) < r → _ := fun q p o => own_down (k := 3) (k' := 4) (r := r) (by decide) (own_ltj (by decide)) q (u4 p o)
  have u2 : ¬ (2 : Int32) < r → ¬ (3 : Int32) < r → ¬ (4 : Int32) < r → ¬ (5 : Int32) < r → _ := fun q p o s => own_down (k := 2) (k' := 3) (r := r) (by decide) (own_ltj (by decide)) q (u3 p o s)
  have u1 : ¬ (1 : Int32) < r → ¬ (2 : Int32) < r → ¬ (3 : Int32) < r → ¬ (4 : Int32) < r → ¬ (5 : Int32) < r → _ := fun q p o s v => own_down (k := 1) (k' := 2) (r := r) (by decide) (own_ltj (by decide)) q (u2 p o s v)
  have u0 : ¬ (0 : Int32) < r → ¬ (1 : Int32) < r → ¬ (2 : Int32) < r → ¬ (3 : Int32) < r → ¬ (4 : Int32) < r → ¬ (5 : Int32) < r → _ := fun q p o s v w => own_down (k := 0) (k' := 1) (r := r) (by decide) (own_ltj (by decide)) q (u1 p o s v w)
  have c : r = 0 ∨ r = 1 ∨ r = 2 ∨ r = 3 ∨ r = 4 ∨ r = 5 ∨ r = 6 := by
    simp only [← Int32.toInt_inj, Int32.reduceToInt]
    omega
  unfold own_f3_0
  rcases c with rfl | rfl | rfl | rfl | rfl | rfl | rfl
  · rw [u0 (by decide) (by decide) (by decide) (by decide) (by decide) (by decide) 6 0 (by decide)]
    simp only [Int32.add_zero, Int32.zero_add, Int32.add_assoc]
  · rw [u1 (by decide) (by decide) (by decide) (by decide) (by decide) 6 0 (by decide), own_low (k := 0) (by decide)]
    simp only [Int32.add_zero, Int32.zero_add, Int32.add_assoc]
  · rw [u2 (by decide) (by decide) (by decide) (by decide) 6 0 (by decide), own_low (k := 0) (by decide), own_low (k := 1) (by decide)]
    simp only [Int32.add_zero, Int32.zero_add, Int32.add_assoc]
  · rw [u3 (by decide) (by decide) (by decide) 6 0 (by decide), own_low (k := 0) (by decide), own_low (k := 1) (by decide), own_low (k := 2) (by decide)]
    simp only [Int32.add_zero, Int32.zero_add, Int32.add_assoc]
  · rw [u4 (by decide) (by decide) 6 0 (by decide), own_low (k := 0) (by decide), own_low (k := 1) (by decide), own_low (k := 2) (by decide), own_low (k := 3) (by decide)]
    simp only [Int32.add_zero, Int32.zero_add]
  · rw [u5 (by decide) 6 0 (by decide), own_low (k := 0) (by decide), own_low (k := 1) (by decide), own_low (k := 2) (by decide), own_low (k := 3) (by decide), own_low (k := 4) (by decide)]
    simp only [Int32.add_zero, Int32.zero_add]
  · rw [t6 6 0 (by decide), own_low (k := 0) (by decide), own_low (k := 1) (by decide), own_low (k := 2) (by decide), own_low (k := 3) (by decide), own_low (k := 4) (by decide), own_low (k := 5) (by decide)]
    simp only [Int32.add_zero]
theorem own_law (p0 : Int32) (q1 : Int64) (p2 p3 : Int32) (f : Nat → Int32) (r t : Int32) (hr : 0 ≤ r.toInt ∧ r.toInt ≤ 6) (ht : r.toInt ≤ t.toInt ∧ t.toInt ≤ 6) : own_f0_0 f r t = 1 := by
  unfold own_f0_0
  rw [if_pos (own_sum f r t hr ht)]
set_option maxRecDepth 65536 in
set_option maxHeartbeats 40000000 in
theorem own_rm0 (l : Launch) (Z : State) (aA : Array Value) (hw : ∀ d ∈ tables_1, d.before aA Z = true) (ws : List Jvm.Cond) (p0 : Int32) (q1 : Int64) (p2 : Int32) (p3 : Int32)  (h0 : Heap) (n0 : Nat) (Z0 : n0 ≤ h0.size) :
    MetFree l x (head1 (Jvm.Cond.code x code maxLocals ret :: ws) room_1) (fun a U => a = #[(.int p0), (.long q1), (.int p2), (.int p3)] ∧ Z.Warmed39 U.vm ∧ U.heap = h0) (fun _ _ _ _ _ => True) (fun _ U o U' => ∃ v L, o = .returned v ∧ (QL (.int ((1 : Int32))) n0) v U'.heap L ∧ FrameEnd U o U' L 16 128) := by
  refine MetFree.of_bodySF (plainFor_of_name own_pn0) hisR ?_
  intro p e s m args below meth c s₁ Bd hml0 hP hK
  obtain ⟨rfl, hZ, hh⟩ := hP
  have hx := Bd.exec
  have hby := Bd.bytes
  have hml : c.maxLocals = 9 := hml0
  have hown : s.vm.findClass "com/example/swapscribe/swapscribe/input/TextFileLineEndsPinLaw" = some m.cls := findClass_of_methodNamed Bd.named
  have hnm := (name_of_methodNamed Bd.named Bd.method).1
  have X0 : Stand p l e room_1 s m #[(.int p0), (.long q1), (.int p2), (.int p3)] below meth c s₁ [] 0 0 := Stand.of_body Bd
  have e0 : s₁.heap = h0 := by rw [← hh, Bd.state]; rfl
  have N0 := Fr.nil n0
  refine Owe.step (T := s₁) (T' := s₁) (g' := (mkF m 0 #[.val (.int p0), .val (.long q1), .second, .val (.int p2), .val (.int p3), .unset, .unset, .unset, .unset] [])) (fun t k => castTop (own_ef0 m p0 q1 p2 p3) k) ?_
  obtain ⟨T1, h1, k1, X1, e1, E1, A1, st1⟩ := newP X0 hx hZ (hw _ (List.mem_of_getElem? (i := 0) rfl)) e0 (g := (mkF m 2 #[.val (.int p0), .val (.long q1), .second, .val (.int p2), .val (.int p3), .unset, .unset, .unset, .unset] [(.int (6 : Int32))])) rfl (hb hby at_2) rfl (by decide) (cap := 6) (by decide) (by decide) (by decide) (by decide)
  obtain ⟨b1, g1⟩ : ∃ z, z = h0.size := ⟨_, rfl⟩
  rw [← g1] at A1 st1
  have g_b1 : n0 ≤ b1 := Nat.le_trans Z0 (Nat.le_of_eq g1.symm)
  have Zn1 : n0 ≤ h1.size := Nat.le_trans Z0 E1.1
  have V1 : AI Z h1 b1 .byte 6 (fun _ => (0 : Int32)) := AV.new A1 (by decide)
  obtain ⟨_, _, ⟨T2, L2, k2, n2⟩, -, X2, ⟨Lc2, hQ2, l2, y2, z2⟩, st2⟩ := Jvm.LawKit.callS X1 hx (y := (⟨"com/example/swapscribe/swapscribe/input/TextFileLineEndsPinLaw", "pick", "(IJI)B"⟩ : MethodName)) hown (mvT hZ (hw _ (List.mem_of_getElem? (i := 1) rfl))) (mvT hZ (hw _ (List.mem_of_getElem? (i := 2) rfl))) (mvT hZ (hw _ (List.mem_of_getElem? (i := 3) rfl))) (mvT hZ (hw _ (List.mem_of_getElem? (i := 4) rfl))) (by decide) (backOf (W := 2) (own_rm1 l Z aA hw [] p0 q1 (0 : Int32) h1 n0 Zn1 ) hZ (hw _ (List.mem_of_getElem? (i := 4) rfl)) (hw _ (List.mem_of_getElem? (i := 3) rfl)) (by decide) (by decide)) (g := (mkF m 12 #[.val (.int p0), .val (.long q1), .second, .val (.int p2), .val (.int p3), .val (.ref b1), .unset, .unset, .unset] [(.int (0 : Int32)), (.long q1), (.int p0), (.int (0 : Int32)), (.ref b1)])) rfl (by rw [hml]; rfl) (argsL := [(.int p0), (.long q1), (.int (0 : Int32))]) (rest := [(.int (0 : Int32)), (.ref b1)]) (lenOf own_pd0 rfl) rfl (by show 2 * 0 + _ ≤ _; exact Nat.le_of_eq rfl) (hb hby at_12) (fun _ _ => ⟨rfl, e1, (by decide : 1 + 0 ≤ _), (by decide : 6 + 0 ≤ _)⟩)
  dsimp only [Pt.U, Pt.locs, Pt.cells, Pt.slots] at X2 l2 y2 z2 st2 hQ2
  subst l2 y2 z2
  obtain ⟨rfl, N2q, e2⟩ := hQ2
  have N2 := Fr.app N0 N2q
  obtain ⟨T3, h3, X3, e3, W3, V3, st3⟩ := stAB X2 hx hZ e2 V1 (j := (0 : Int32)) (by decide) (by decide) (g := (mkF m 15 #[.val (.int p0), .val (.long q1), .second, .val (.int p2), .val (.int p3), .val (.ref b1), .unset, .unset, .unset] [(.int (own_f1_0 p0 q1 (0 : Int32))), (.int (0 : Int32)), (.ref b1)])) rfl rfl (hb hby at_15)
  have N3 := Fr.snoc X3 N2 g_b1
  have Zn3 : n0 ≤ h3.size := Nat.le_trans Zn1 (Keep.of_wr W3).1
  obtain ⟨f3, ef3⟩ : ∃ z, z = own_upd (fun _ => (0 : Int32)) ((0 : Int32)).toNatClampNeg (nar .byte (own_f1_0 p0 q1 (0 : Int32))) := ⟨_, rfl⟩
  rw [← ef3] at V3
  obtain ⟨_, _, ⟨T4, L4, k4, n4⟩, -, X4, ⟨Lc4, hQ4, l4, y4, z4⟩, st4⟩ := Jvm.LawKit.callS X3 hx (y := (⟨"com/example/swapscribe/swapscribe/input/TextFileLineEndsPinLaw", "pick", "(IJI)B"⟩ : MethodName)) hown (mvT hZ (hw _ (List.mem_of_getElem? (i := 1) rfl))) (mvT hZ (hw _ (List.mem_of_getElem? (i := 2) rfl))) (mvT hZ (hw _ (List.mem_of_getElem? (i := 3) rfl))) (mvT hZ (hw _ (List.mem_of_getElem? (i := 4) rfl))) (by decide) (backOf (W := 2) (own_rm1 l Z aA hw [] p0 q1 (1 : Int32) h3 n0 Zn3 ) hZ (hw _ (List.mem_of_getElem? (i := 4) rfl)) (hw _ (List.mem_of_getElem? (i := 3) rfl)) (by decide) (by decide)) (g := (mkF m 22 #[.val (.int p0), .val (.long q1), .second, .val (.int p2), .val (.int p3), .val (.ref b1), .unset, .unset, .unset] [(.int (1 : Int32)), (.long q1), (.int p0), (.int (1 : Int32)), (.ref b1)])) rfl (by rw [hml]; rfl) (argsL := [(.int p0), (.long q1), (.int (1 : Int32))]) (rest := [(.int (1 : Int32)), (.ref b1)]) (lenOf own_pd0 rfl) rfl (by show 2 * 0 + _ ≤ _; exact Nat.le_of_eq rfl) (hb hby at_22) (fun _ _ => ⟨rfl, e3, (by decide : 1 + 0 ≤ _), (by decide : 6 + 0 ≤ _)⟩)
  dsimp only [Pt.U, Pt.locs, Pt.cells, Pt.slots] at X4 l4 y4 z4 st4 hQ4
  subst l4 y4 z4
  obtain ⟨rfl, N4q, e4⟩ := hQ4
  have N4 := Fr.app N3 N4q
  obtain ⟨T5, h5, X5, e5, W5, V5, st5⟩ := stAB X4 hx hZ e4 V3 (j := (1 : Int32)) (by decide) (by decide) (g := (mkF m 25 #[.val (.int p0), .val (.long q1), .second, .val (.int p2), .val (.int p3), .val (.ref b1), .unset, .unset, .unset] [(.int (own_f1_0 p0 q1 (1 : Int32))), (.int (1 : Int32)), (.ref b1)])) rfl rfl (hb hby at_25)
  have N5 := Fr.snoc X5 N4 g_b1
  have Zn5 : n0 ≤ h5.size := Nat.le_trans Zn3 (Keep.of_wr W5).1
  obtain ⟨f5, ef5⟩ : ∃ z, z = own_upd f3 ((1 : Int32)).toNatClampNeg (nar .byte (own_f1_0 p0 q1 (1 : Int32))) := ⟨_, rfl⟩
  rw [← ef5] at V5
  obtain ⟨_, _, ⟨T6, L6, k6, n6⟩, -, X6, ⟨Lc6, hQ6, l6, y6, z6⟩, st6⟩ := Jvm.LawKit.callS X5 hx (y := (⟨"com/example/swapscribe/swapscribe/input/TextFileLineEndsPinLaw", "pick", "(IJI)B"⟩ : MethodName)) hown (mvT hZ (hw _ (List.mem_of_getElem? (i := 1) rfl))) (mvT hZ (hw _ (List.mem_of_getElem? (i := 2) rfl))) (mvT hZ (hw _ (List.mem_of_getElem? (i := 3) rfl))) (mvT hZ (hw _ (List.mem_of_getElem? (i := 4) rfl))) (by decide) (backOf (W := 2) (own_rm1 l Z aA hw [] p0 q1 (2 : Int32) h5 n0 Zn5 ) hZ (hw _ (List.mem_of_getElem? (i := 4) rfl)) (hw _ (List.mem_of_getElem? (i := 3) rfl)) (by decide) (by decide)) (g := (mkF m 32 #[.val (.int p0), .val (.long q1), .second, .val (.int p2), .val (.int p3), .val (.ref b1), .unset, .unset, .unset] [(.int (2 : Int32)), (.long q1), (.int p0), (.int (2 : Int32)), (.ref b1)])) rfl (by rw [hml]; rfl) (argsL := [(.int p0), (.long q1), (.int (2 : Int32))]) (rest := [(.int (2 : Int32)), (.ref b1)]) (lenOf own_pd0 rfl) rfl (by show 2 * 0 + _ ≤ _; exact Nat.le_of_eq rfl) (hb hby at_32) (fun _ _ => ⟨rfl, e5, (by decide : 1 + 0 ≤ _), (by decide : 6 + 0 ≤ _)⟩)
  dsimp only [Pt.U, Pt.locs, Pt.cells, Pt.slots] at X6 l6 y6 z6 st6 hQ6
  subst l6 y6 z6
  obtain ⟨rfl, N6q, e6⟩ := hQ6
  have N6 := Fr.app N5 N6q
  obtain ⟨T7, h7, X7, e7, W7, V7, st7⟩ := stAB X6 hx hZ e6 V5 (j := (2 : Int32)) (by decide) (by decide) (g := (mkF m 35 #[.val (.int p0), .val (.long q1), .second, .val (.int p2), .val (.int p3), .val (.ref b1), .unset, .unset, .unset] [(.int (own_f1_0 p0 q1 (2 : Int32))), (.int (2 : Int32)), (.ref b1)])) rfl rfl (hb hby at_35)
  have N7 := Fr.snoc X7 N6 g_b1
  have Zn7 : n0 ≤ h7.size := Nat.le_trans Zn5 (Keep.of_wr W7).1
  obtain ⟨f7, ef7⟩ : ∃ z, z = own_upd f5 ((2 : Int32)).toNatClampNeg (nar .byte (own_f1_0 p0 q1 (2 : Int32))) := ⟨_, rfl⟩
  rw [← ef7] at V7
  obtain ⟨_, _, ⟨T8, L8, k8, n8⟩, -, X8, ⟨Lc8, hQ8, l8, y8, z8⟩, st8⟩ := Jvm.LawKit.callS X7 hx (y := (⟨"com/example/swapscribe/swapscribe/input/TextFileLineEndsPinLaw", "pick", "(IJI)B"⟩ : MethodName)) hown (mvT hZ (hw _ (List.mem_of_getElem? (i := 1) rfl))) (mvT hZ (hw _ (List.mem_of_getElem? (i := 2) rfl))) (mvT hZ (hw _ (List.mem_of_getElem? (i := 3) rfl))) (mvT hZ (hw _ (List.mem_of_getElem? (i := 4) rfl))) (by decide) (backOf (W := 2) (own_rm1 l Z aA hw [] p0 q1 (3 : Int32) h7 n0 Zn7 ) hZ (hw _ (List.mem_of_getElem? (i := 4) rfl)) (hw _ (List.mem_of_getElem? (i := 3) rfl)) (by decide) (by decide)) (g := (mkF m 42 #[.val (.int p0), .val (.long q1), .second, .val (.int p2), .val (.int p3), .val (.ref b1), .unset, .unset, .unset] [(.int (3 : Int32)), (.long q1), (.int p0), (.int (3 : Int32)), (.ref b1)])) rfl (by rw [hml]; rfl) (argsL := [(.int p0), (.long q1), (.int (3 : Int32))]) (rest := [(.int (3 : Int32)), (.ref b1)]) (lenOf own_pd0 rfl) rfl (by show 2 * 0 + _ ≤ _; exact Nat.le_of_eq rfl) (hb hby at_42) (fun _ _ => ⟨rfl, e7, (by decide : 1 + 0 ≤ _), (by decide : 6 + 0 ≤ _)⟩)
  dsimp only [Pt.U, Pt.locs, Pt.cells, Pt.slots] at X8 l8 y8 z8 st8 hQ8
  subst l8 y8 z8
  obtain ⟨rfl, N8q, e8⟩ := hQ8
  have N8 := Fr.app N7 N8q
  obtain ⟨T9, h9, X9, e9, W9, V9, st9⟩ := stAB X8 hx hZ e8 V7 (j := (3 : Int32)) (by decide) (by decide) (g := (mkF m 45 #[.val (.int p0), .val (.long q1), .second, .val (.int p2), .val (.int p3), .val (.ref b1), .unset, .unset, .unset] [(.int (own_f1_0 p0 q1 (3 : Int32))), (.int (3 : Int32)), (.ref b1)])) rfl rfl (hb hby at_45)
  have N9 := Fr.snoc X9 N8 g_b1
  have Zn9 : n0 ≤ h9.size := Nat.le_trans Zn7 (Keep.of_wr W9).1
  obtain ⟨f9, ef9⟩ : ∃ z, z = own_upd f7 ((3 : Int32)).toNatClampNeg (nar .byte (own_f1_0 p0 q1 (3 : Int32))) := ⟨_, rfl⟩
  rw [← ef9] at V9
  obtain ⟨_, _, ⟨T10, L10, k10, n10⟩, -, X10, ⟨Lc10, hQ10, l10, y10, z10⟩, st10⟩ := Jvm.LawKit.callS X9 hx (y := (⟨"com/example/swapscribe/swapscribe/input/TextFileLineEndsPinLaw", "pick", "(IJI)B"⟩ : MethodName)) hown (mvT hZ (hw _ (List.mem_of_getElem? (i := 1) rfl))) (mvT hZ (hw _ (List.mem_of_getElem? (i := 2) rfl))) (mvT hZ (hw _ (List.mem_of_getElem? (i := 3) rfl))) (mvT hZ (hw _ (List.mem_of_getElem? (i := 4) rfl))) (by decide) (backOf (W := 2) (own_rm1 l Z aA hw [] p0 q1 (4 : Int32) h9 n0 Zn9 ) hZ (hw _ (List.mem_of_getElem? (i := 4) rfl)) (hw _ (List.mem_of_getElem? (i := 3) rfl)) (by decide) (by decide)) (g := (mkF m 52 #[.val (.int p0), .val (.long q1), .second, .val (.int p2), .val (.int p3), .val (.ref b1), .unset, .unset, .unset] [(.int (4 : Int32)), (.long q1), (.int p0), (.int (4 : Int32)), (.ref b1)])) rfl (by rw [hml]; rfl) (argsL := [(.int p0), (.long q1), (.int (4 : Int32))]) (rest := [(.int (4 : Int32)), (.ref b1)]) (lenOf own_pd0 rfl) rfl (by show 2 * 0 + _ ≤ _; exact Nat.le_of_eq rfl) (hb hby at_52) (fun _ _ => ⟨rfl, e9, (by decide : 1 + 0 ≤ _), (by decide : 6 + 0 ≤ _)⟩)
  dsimp only [Pt.U, Pt.locs, Pt.cells, Pt.slots] at X10 l10 y10 z10 st10 hQ10
  subst l10 y10 z10
  obtain ⟨rfl, N10q, e10⟩ := hQ10
  have N10 := Fr.app N9 N10q
  obtain ⟨T11, h11, X11, e11, W11, V11, st11⟩ := stAB X10 hx hZ e10 V9 (j := (4 : Int32)) (by decide) (by decide) (g := (mkF m 55 #[.val (.int p0), .val (.long q1), .second, .val (.int p2), .val (.int p3), .val (.ref b1), .unset, .unset, .unset] [(.int (own_f1_0 p0 q1 (4 : Int32))), (.int (4 : Int32)), (.ref b1)])) rfl rfl (hb hby at_55)
  have N11 := Fr.snoc X11 N10 g_b1
  have Zn11 : n0 ≤ h11.size := Nat.le_trans Zn9 (Keep.of_wr W11).1
  obtain ⟨f11, ef11⟩ : ∃ z, z = own_upd f9 ((4 : Int32)).toNatClampNeg (nar .byte (own_f1_0 p0 q1 (4 : Int32))) := ⟨_, rfl⟩
  rw [← ef11] at V11
  obtain ⟨_, _, ⟨T12, L12, k12, n12⟩, -, X12, ⟨Lc12, hQ12, l12, y12, z12⟩, st12⟩ := Jvm.LawKit.callS X11 hx (y := (⟨"com/example/swapscribe/swapscribe/input/TextFileLineEndsPinLaw", "pick", "(IJI)B"⟩ : MethodName)) hown (mvT hZ (hw _ (List.mem_of_getElem? (i := 1) rfl))) (mvT hZ (hw _ (List.mem_of_getElem? (i := 2) rfl))) (mvT hZ (hw _ (List.mem_of_getElem? (i := 3) rfl))) (mvT hZ (hw _ (List.mem_of_getElem? (i := 4) rfl))) (by decide) (backOf (W := 2) (own_rm1 l Z aA hw [] p0 q1 (5 : Int32) h11 n0 Zn11 ) hZ (hw _ (List.mem_of_getElem? (i := 4) rfl)) (hw _ (List.mem_of_getElem? (i := 3) rfl)) (by decide) (by decide)) (g := (mkF m 62 #[.val (.int p0), .val (.long q1), .second, .val (.int p2), .val (.int p3), .val (.ref b1), .unset, .unset, .unset] [(.int (5 : Int32)), (.long q1), (.int p0), (.int (5 : Int32)), (.ref b1)])) rfl (by rw [hml]; rfl) (argsL := [(.int p0), (.long q1), (.int (5 : Int32))]) (rest := [(.int (5 : Int32)), (.ref b1)]) (lenOf own_pd0 rfl) rfl (by show 2 * 0 + _ ≤ _; exact Nat.le_of_eq rfl) (hb hby at_62) (fun _ _ => ⟨rfl, e11, (by decide : 1 + 0 ≤ _), (by decide : 6 + 0 ≤ _)⟩)
  dsimp only [Pt.U, Pt.locs, Pt.cells, Pt.slots] at X12 l12 y12 z12 st12 hQ12
  subst l12 y12 z12
  obtain ⟨rfl, N12q, e12⟩ := hQ12
  have N12 := Fr.app N11 N12q
  obtain ⟨T13, h13, X13, e13, W13, V13, st13⟩ := stAB X12 hx hZ e12 V11 (j := (5 : Int32)) (by decide) (by decide) (g := (mkF m 65 #[.val (.int p0), .val (.long q1), .second, .val (.int p2), .val (.int p3), .val (.ref b1), .unset, .unset, .unset] [(.int (own_f1_0 p0 q1 (5 : Int32))), (.int (5 : Int32)), (.ref b1)])) rfl rfl (hb hby at_65)
  have N13 := Fr.snoc X13 N12 g_b1
  have Zn13 : n0 ≤ h13.size := Nat.le_trans Zn11 (Keep.of_wr W13).1
  obtain ⟨f13, ef13⟩ : ∃ z, z = own_upd f11 ((5 : Int32)).toNatClampNeg (nar .byte (own_f1_0 p0 q1 (5 : Int32))) := ⟨_, rfl⟩
  rw [← ef13] at V13
  refine Owe.step (T' := T13) (g' := (mkF m 73 #[.val (.int p0), .val (.long q1), .second, .val (.int p2), .val (.int p3), .val (.ref b1), .unset, .unset, .unset] [(.int ((p2 &&& (2147483647 : Int32)) - ((p2 &&& (2147483647 : Int32)) / (7 : Int32)) * (7 : Int32)))])) (fun t k => ?_) ?_
  · show Steps p.tables e below (s₁.setTop (mkF m 0 #[.val (.int p0), .val (.long q1), .second, .val (.int p2), .val (.int p3), .unset, .unset, .unset, .unset] [])) t
    refine XS.bipush X0.here hx rfl (hb hby at_0) ?_
    show Steps p.tables e below (s₁.setTop (mkF m 2 #[.val (.int p0), .val (.long q1), .second, .val (.int p2), .val (.int p3), .unset, .unset, .unset, .unset] [(.int (6 : Int32))])) t
    refine st1 _ ?_
    show Steps p.tables e below (T1.setTop (mkF m 4 #[.val (.int p0), .val (.long q1), .second, .val (.int p2), .val (.int p3), .unset, .unset, .unset, .unset] [(.ref b1)])) t
    refine XS.astore X1.here hx rfl (hb hby at_4) rfl rfl (l' := #[.val (.int p0), .val (.long q1), .second, .val (.int p2), .val (.int p3), .val (.ref b1), .unset, .unset, .unset]) rfl ?_
    show Steps p.tables e below (T1.setTop (mkF m 6 #[.val (.int p0), .val (.long q1), .second, .val (.int p2), .val (.int p3), .val (.ref b1), .unset, .unset, .unset] [])) t
    refine XS.aload X1.here hx rfl (hb hby at_6) rfl rfl ?_
    show Steps p.tables e below (T1.setTop (mkF m 8 #[.val (.int p0), .val (.long q1), .second, .val (.int p2), .val (.int p3), .val (.ref b1), .unset, .unset, .unset] [(.ref b1)])) t
    refine XS.iconst X1.here hx rfl (hb hby at_8) ?_
    show Steps p.tables e below (T1.setTop (mkF m 9 #[.val (.int p0), .val (.long q1), .second, .val (.int p2), .val (.int p3), .val (.ref b1), .unset, .unset, .unset] [(.int (0 : Int32)), (.ref b1)])) t
    refine XS.iloadN X1.here hx rfl (hb hby at_9) rfl ?_
    show Steps p.tables e below (T1.setTop (mkF m 10 #[.val (.int p0), .val (.long q1), .second, .val (.int p2), .val (.int p3), .val (.ref b1), .unset, .unset, .unset] [(.int p0), (.int (0 : Int32)), (.ref b1)])) t
    refine XS.lloadN X1.here hx rfl (hb hby at_10) rfl ?_
    show Steps p.tables e below (T1.setTop (mkF m 11 #[.val (.int p0), .val (.long q1), .second, .val (.int p2), .val (.int p3), .val (.ref b1), .unset, .unset, .unset] [(.long q1), (.int p0), (.int (0 : Int32)), (.ref b1)])) t
    refine XS.iconst X1.here hx rfl (hb hby at_11) ?_
    show Steps p.tables e below (T1.setTop (mkF m 12 #[.val (.int p0), .val (.long q1), .second, .val (.int p2), .val (.int p3), .val (.ref b1), .unset, .unset, .unset] [(.int (0 : Int32)), (.long q1), (.int p0), (.int (0 : Int32)), (.ref b1)])) t
    refine st2 _ ?_
    show Steps p.tables e below (T2.setTop (mkF m 15 #[.val (.int p0), .val (.long q1), .second, .val (.int p2), .val (.int p3), .val (.ref b1), .unset, .unset, .unset] [(.int (own_f1_0 p0 q1 (0 : Int32))), (.int (0 : Int32)), (.ref b1)])) t
    refine st3 _ ?_
    show Steps p.tables e below (T3.setTop (mkF m 16 #[.val (.int p0), .val (.long q1), .second, .val (.int p2), .val (.int p3), .val (.ref b1), .unset, .unset, .unset] [])) t
    refine XS.aload X3.here hx rfl (hb hby at_16) rfl rfl ?_
    show Steps p.tables e below (T3.setTop (mkF m 18 #[.val (.int p0), .val (.long q1), .second, .val (.int p2), .val (.int p3), .val (.ref b1), .unset, .unset, .unset] [(.ref b1)])) t
    refine XS.iconst X3.here hx rfl (hb hby at_18) ?_
    show Steps p.tables e below (T3.setTop (mkF m 19 #[.val (.int p0), .val (.long q1), .second, .val (.int p2), .val (.int p3), .val (.ref b1), .unset, .unset, .unset] [(.int (1 : Int32)), (.ref b1)])) t
    refine XS.iloadN X3.here hx rfl (hb hby at_19) rfl ?_
    show Steps p.tables e below (T3.setTop (mkF m 20 #[.val (.int p0), .val (.long q1), .second, .val (.int p2), .val (.int p3), .val (.ref b1), .unset, .unset, .unset] [(.int p0), (.int (1 : Int32)), (.ref b1)])) t
    refine XS.lloadN X3.here hx rfl (hb hby at_20) rfl ?_
    show Steps p.tables e below (T3.setTop (mkF m 21 #[.val (.int p0), .val (.long q1), .second, .val (.int p2), .val (.int p3), .val (.ref b1), .unset, .unset, .unset] [(.long q1), (.int p0), (.int (1 : Int32)), (.ref b1)])) t
    refine XS.iconst X3.here hx rfl (hb hby at_21) ?_
    show Steps p.tables e below (T3.setTop (mkF m 22 #[.val (.int p0), .val (.long q1), .second, .val (.int p2), .val (.int p3), .val (.ref b1), .unset, .unset, .unset] [(.int (1 : Int32)), (.long q1), (.int p0), (.int (1 : Int32)), (.ref b1)])) t
    refine st4 _ ?_
    show Steps p.tables e below (T4.setTop (mkF m 25 #[.val (.int p0), .val (.long q1), .second, .val (.int p2), .val (.int p3), .val (.ref b1), .unset, .unset, .unset] [(.int (own_f1_0 p0 q1 (1 : Int32))), (.int (1 : Int32)), (.ref b1)])) t
    refine st5 _ ?_
    show Steps p.tables e below (T5.setTop (mkF m 26 #[.val (.int p0), .val (.long q1), .second, .val (.int p2), .val (.int p3), .val (.ref b1), .unset, .unset, .unset] [])) t
    refine XS.aload X5.here hx rfl (hb hby at_26) rfl rfl ?_
    show Steps p.tables e below (T5.setTop (mkF m 28 #[.val (.int p0), .val (.long q1), .second, .val (.int p2), .val (.int p3), .val (.ref b1), .unset, .unset, .unset] [(.ref b1)])) t
    refine XS.iconst X5.here hx rfl (hb hby at_28) ?_
    show Steps p.tables e below (T5.setTop (mkF m 29 #[.val (.int p0), .val (.long q1), .second, .val (.int p2), .val (.int p3), .val (.ref b1), .unset, .unset, .unset] [(.int (2 : Int32)), (.ref b1)])) t
    refine XS.iloadN X5.here hx rfl (hb hby at_29) rfl ?_
    show Steps p.tables e below (T5.setTop (mkF m 30 #[.val (.int p0), .val (.long q1), .second, .val (.int p2), .val (.int p3), .val (.ref b1), .unset, .unset, .unset] [(.int p0), (.int (2 : Int32)), (.ref b1)])) t
    refine XS.lloadN X5.here hx rfl (hb hby at_30) rfl ?_
    show Steps p.tables e below (T5.setTop (mkF m 31 #[.val (.int p0), .val (.long q1), .second, .val (.int p2), .val (.int p3), .val (.ref b1), .unset, .unset, .unset] [(.long q1), (.int p0), (.int (2 : Int32)), (.ref b1)])) t
    refine XS.iconst X5.here hx rfl (hb hby at_31) ?_
    show Steps p.tables e below (T5.setTop (mkF m 32 #[.val (.int p0), .val (.long q1), .second, .val (.int p2), .val (.int p3), .val (.ref b1), .unset, .unset, .unset] [(.int (2 : Int32)), (.long q1), (.int p0), (.int (2 : Int32)), (.ref b1)])) t
    refine st6 _ ?_
    show Steps p.tables e below (T6.setTop (mkF m 35 #[.val (.int p0), .val (.long q1), .second, .val (.int p2), .val (.int p3), .val (.ref b1), .unset, .unset, .unset] [(.int (own_f1_0 p0 q1 (2 : Int32))), (.int (2 : Int32)), (.ref b1)])) t
    refine st7 _ ?_
    show Steps p.tables e below (T7.setTop (mkF m 36 #[.val (.int p0), .val (.long q1), .second, .val (.int p2), .val (.int p3), .val (.ref b1), .unset, .unset, .unset] [])) t
    refine XS.aload X7.here hx rfl (hb hby at_36) rfl rfl ?_
    show Steps p.tables e below (T7.setTop (mkF m 38 #[.val (.int p0), .val (.long q1), .second, .val (.int p2), .val (.int p3), .val (.ref b1), .unset, .unset, .unset] [(.ref b1)])) t
    refine XS.iconst X7.here hx rfl (hb hby at_38) ?_
    show Steps p.tables e below (T7.setTop (mkF m 39 #[.val (.int p0), .val (.long q1), .second, .val (.int p2), .val (.int p3), .val (.ref b1), .unset, .unset, .unset] [(.int (3 : Int32)), (.ref b1)])) t
    refine XS.iloadN X7.here hx rfl (hb hby at_39) rfl ?_
    show Steps p.tables e below (T7.setTop (mkF m 40 #[.val (.int p0), .val (.long q1), .second, .val (.int p2), .val (.int p3), .val (.ref b1), .unset, .unset, .unset] [(.int p0), (.int (3 : Int32)), (.ref b1)])) t
    refine XS.lloadN X7.here hx rfl (hb hby at_40) rfl ?_
    show Steps p.tables e below (T7.setTop (mkF m 41 #[.val (.int p0), .val (.long q1), .second, .val (.int p2), .val (.int p3), .val (.ref b1), .unset, .unset, .unset] [(.long q1), (.int p0), (.int (3 : Int32)), (.ref b1)])) t
    refine XS.iconst X7.here hx rfl (hb hby at_41) ?_
    show Steps p.tables e below (T7.setTop (mkF m 42 #[.val (.int p0), .val (.long q1), .second, .val (.int p2), .val (.int p3), .val (.ref b1), .unset, .unset, .unset] [(.int (3 : Int32)), (.long q1), (.int p0), (.int (3 : Int32)), (.ref b1)])) t
    refine st8 _ ?_
    show Steps p.tables e below (T8.setTop (mkF m 45 #[.val (.int p0), .val (.long q1), .second, .val (.int p2), .val (.int p3), .val (.ref b1), .unset, .unset, .unset] [(.int (own_f1_0 p0 q1 (3 : Int32))), (.int (3 : Int32)), (.ref b1)])) t
    refine st9 _ ?_
    show Steps p.tables e below (T9.setTop (mkF m 46 #[.val (.int p0), .val (.long q1), .second, .val (.int p2), .val (.int p3), .val (.ref b1), .unset, .unset, .unset] [])) t
    refine XS.aload X9.here hx rfl (hb hby at_46) rfl rfl ?_
    show Steps p.tables e below (T9.setTop (mkF m 48 #[.val (.int p0), .val (.long q1), .second, .val (.int p2), .val (.int p3), .val (.ref b1), .unset, .unset, .unset] [(.ref b1)])) t
    refine XS.iconst X9.here hx rfl (hb hby at_48) ?_
    show Steps p.tables e below (T9.setTop (mkF m 49 #[.val (.int p0), .val (.long q1), .second, .val (.int p2), .val (.int p3), .val (.ref b1), .unset, .unset, .unset] [(.int (4 : Int32)), (.ref b1)])) t
    refine XS.iloadN X9.here hx rfl (hb hby at_49) rfl ?_
    show Steps p.tables e below (T9.setTop (mkF m 50 #[.val (.int p0), .val (.long q1), .second, .val (.int p2), .val (.int p3), .val (.ref b1), .unset, .unset, .unset] [(.int p0), (.int (4 : Int32)), (.ref b1)])) t
    refine XS.lloadN X9.here hx rfl (hb hby at_50) rfl ?_
    show Steps p.tables e below (T9.setTop (mkF m 51 #[.val (.int p0), .val (.long q1), .second, .val (.int p2), .val (.int p3), .val (.ref b1), .unset, .unset, .unset] [(.long q1), (.int p0), (.int (4 : Int32)), (.ref b1)])) t
    refine XS.iconst X9.here hx rfl (hb hby at_51) ?_
    show Steps p.tables e below (T9.setTop (mkF m 52 #[.val (.int p0), .val (.long q1), .second, .val (.int p2), .val (.int p3), .val (.ref b1), .unset, .unset, .unset] [(.int (4 : Int32)), (.long q1), (.int p0), (.int (4 : Int32)), (.ref b1)])) t
    refine st10 _ ?_
    show Steps p.tables e below (T10.setTop (mkF m 55 #[.val (.int p0), .val (.long q1), .second, .val (.int p2), .val (.int p3), .val (.ref b1), .unset, .unset, .unset] [(.int (own_f1_0 p0 q1 (4 : Int32))), (.int (4 : Int32)), (.ref b1)])) t
    refine st11 _ ?_
    show Steps p.tables e below (T11.setTop (mkF m 56 #[.val (.int p0), .val (.long q1), .second, .val (.int p2), .val (.int p3), .val (.ref b1), .unset, .unset, .unset] [])) t
    refine XS.aload X11.here hx rfl (hb hby at_56) rfl rfl ?_
    show Steps p.tables e below (T11.setTop (mkF m 58 #[.val (.int p0), .val (.long q1), .second, .val (.int p2), .val (.int p3), .val (.ref b1), .unset, .unset, .unset] [(.ref b1)])) t
    refine XS.iconst X11.here hx rfl (hb hby at_58) ?_
    show Steps p.tables e below (T11.setTop (mkF m 59 #[.val (.int p0), .val (.long q1), .second, .val (.int p2), .val (.int p3), .val (.ref b1), .unset, .unset, .unset] [(.int (5 : Int32)), (.ref b1)])) t
    refine XS.iloadN X11.here hx rfl (hb hby at_59) rfl ?_
    show Steps p.tables e below (T11.setTop (mkF m 60 #[.val (.int p0), .val (.long q1), .second, .val (.int p2), .val (.int p3), .val (.ref b1), .unset, .unset, .unset] [(.int p0), (.int (5 : Int32)), (.ref b1)])) t
    refine XS.lloadN X11.here hx rfl (hb hby at_60) rfl ?_
    show Steps p.tables e below (T11.setTop (mkF m 61 #[.val (.int p0), .val (.long q1), .second, .val (.int p2), .val (.int p3), .val (.ref b1), .unset, .unset, .unset] [(.long q1), (.int p0), (.int (5 : Int32)), (.ref b1)])) t
    refine XS.iconst X11.here hx rfl (hb hby at_61) ?_
    show Steps p.tables e below (T11.setTop (mkF m 62 #[.val (.int p0), .val (.long q1), .second, .val (.int p2), .val (.int p3), .val (.ref b1), .unset, .unset, .unset] [(.int (5 : Int32)), (.long q1), (.int p0), (.int (5 : Int32)), (.ref b1)])) t
    refine st12 _ ?_
    show Steps p.tables e below (T12.setTop (mkF m 65 #[.val (.int p0), .val (.long q1), .second, .val (.int p2), .val (.int p3), .val (.ref b1), .unset, .unset, .unset] [(.int (own_f1_0 p0 q1 (5 : Int32))), (.int (5 : Int32)), (.ref b1)])) t
    refine st13 _ ?_
    show Steps p.tables e below (T13.setTop (mkF m 66 #[.val (.int p0), .val (.long q1), .second, .val (.int p2), .val (.int p3), .val (.ref b1), .unset, .unset, .unset] [])) t
    refine XS.iloadN X13.here hx rfl (hb hby at_66) rfl ?_
    show Steps p.tables e below (T13.setTop (mkF m 67 #[.val (.int p0), .val (.long q1), .second, .val (.int p2), .val (.int p3), .val (.ref b1), .unset, .unset, .unset] [(.int p2)])) t
    refine X13.ldcInt hx hown (mvT hZ (hw _ (List.mem_of_getElem? (i := 5) rfl))) (g := (mkF m 67 #[.val (.int p0), .val (.long q1), .second, .val (.int p2), .val (.int p3), .val (.ref b1), .unset, .unset, .unset] [(.int p2)])) rfl (hb hby at_67) _ ?_
    show Steps p.tables e below (T13.setTop (mkF m 69 #[.val (.int p0), .val (.long q1), .second, .val (.int p2), .val (.int p3), .val (.ref b1), .unset, .unset, .unset] [(.int (2147483647 : Int32)), (.int p2)])) t
    refine XS.iand X13.here hx rfl (hb hby at_69) rfl ?_
    show Steps p.tables e below (T13.setTop (mkF m 70 #[.val (.int p0), .val (.long q1), .second, .val (.int p2), .val (.int p3), .val (.ref b1), .unset, .unset, .unset] [(.int (p2 &&& (2147483647 : Int32)))])) t
    refine XS.bipush X13.here hx rfl (hb hby at_70) ?_
    show Steps p.tables e below (T13.setTop (mkF m 72 #[.val (.int p0), .val (.long q1), .second, .val (.int p2), .val (.int p3), .val (.ref b1), .unset, .unset, .unset] [(.int (7 : Int32)), (.int (p2 &&& (2147483647 : Int32)))])) t
    refine XS.irem X13.here hx rfl (hb hby at_72) rfl (by decide) ?_
    show Steps p.tables e below (T13.setTop (mkF m 73 #[.val (.int p0), .val (.long q1), .second, .val (.int p2), .val (.int p3), .val (.ref b1), .unset, .unset, .unset] [(.int ((p2 &&& (2147483647 : Int32)) - ((p2 &&& (2147483647 : Int32)) / (7 : Int32)) * (7 : Int32)))])) t
    exact k
  obtain ⟨fr, e_fr⟩ : ∃ z, z = ((p2 &&& (2147483647 : Int32)) - ((p2 &&& (2147483647 : Int32)) / (7 : Int32)) * (7 : Int32)) := ⟨_, rfl⟩
  rw [← e_fr]
  have H_fr : 0 ≤ fr.toInt ∧ fr.toInt ≤ 6 := by rw [e_fr]; exact own_i7 p2
  refine Owe.step (T' := T13) (g' := (mkF m 89 #[.val (.int p0), .val (.long q1), .second, .val (.int p2), .val (.int p3), .val (.ref b1), .val (.int fr), .unset, .unset] [(.int (fr + ((p3 &&& (2147483647 : Int32)) - ((p3 &&& (2147483647 : Int32)) / ((7 : Int32) - fr)) * ((7 : Int32) - fr))))])) (fun t k => ?_) ?_
  · show Steps p.tables e below (T13.setTop (mkF m 73 #[.val (.int p0), .val (.long q1), .second, .val (.int p2), .val (.int p3), .val (.ref b1), .unset, .unset, .unset] [(.int fr)])) t
    refine XS.istore X13.here hx rfl (hb hby at_73) rfl (l' := #[.val (.int p0), .val (.long q1), .second, .val (.int p2), .val (.int p3), .val (.ref b1), .val (.int fr), .unset, .unset]) rfl ?_
    show Steps p.tables e below (T13.setTop (mkF m 75 #[.val (.int p0), .val (.long q1), .second, .val (.int p2), .val (.int p3), .val (.ref b1), .val (.int fr), .unset, .unset] [])) t
    refine XS.iload X13.here hx rfl (hb hby at_75) rfl ?_
    show Steps p.tables e below (T13.setTop (mkF m 77 #[.val (.int p0), .val (.long q1), .second, .val (.int p2), .val (.int p3), .val (.ref b1), .val (.int fr), .unset, .unset] [(.int fr)])) t
    refine XS.iload X13.here hx rfl (hb hby at_77) rfl ?_
    show Steps p.tables e below (T13.setTop (mkF m 79 #[.val (.int p0), .val (.long q1), .second, .val (.int p2), .val (.int p3), .val (.ref b1), .val (.int fr), .unset, .unset] [(.int p3), (.int fr)])) t
    refine X13.ldcInt hx hown (mvT hZ (hw _ (List.mem_of_getElem? (i := 5) rfl))) (g := (mkF m 79 #[.val (.int p0), .val (.long q1), .second, .val (.int p2), .val (.int p3), .val (.ref b1), .val (.int fr), .unset, .unset] [(.int p3), (.int fr)])) rfl (hb hby at_79) _ ?_
    show Steps p.tables e below (T13.setTop (mkF m 81 #[.val (.int p0), .val (.long q1), .second, .val (.int p2), .val (.int p3), .val (.ref b1), .val (.int fr), .unset, .unset] [(.int (2147483647 : Int32)), (.int p3), (.int fr)])) t
    refine XS.iand X13.here hx rfl (hb hby at_81) rfl ?_
    show Steps p.tables e below (T13.setTop (mkF m 82 #[.val (.int p0), .val (.long q1), .second, .val (.int p2), .val (.int p3), .val (.ref b1), .val (.int fr), .unset, .unset] [(.int (p3 &&& (2147483647 : Int32))), (.int fr)])) t
    refine XS.bipush X13.here hx rfl (hb hby at_82) ?_
    show Steps p.tables e below (T13.setTop (mkF m 84 #[.val (.int p0), .val (.long q1), .second, .val (.int p2), .val (.int p3), .val (.ref b1), .val (.int fr), .unset, .unset] [(.int (7 : Int32)), (.int (p3 &&& (2147483647 : Int32))), (.int fr)])) t
    refine XS.iload X13.here hx rfl (hb hby at_84) rfl ?_
    show Steps p.tables e below (T13.setTop (mkF m 86 #[.val (.int p0), .val (.long q1), .second, .val (.int p2), .val (.int p3), .val (.ref b1), .val (.int fr), .unset, .unset] [(.int fr), (.int (7 : Int32)), (.int (p3 &&& (2147483647 : Int32))), (.int fr)])) t
    refine XS.isub X13.here hx rfl (hb hby at_86) rfl ?_
    show Steps p.tables e below (T13.setTop (mkF m 87 #[.val (.int p0), .val (.long q1), .second, .val (.int p2), .val (.int p3), .val (.ref b1), .val (.int fr), .unset, .unset] [(.int ((7 : Int32) - fr)), (.int (p3 &&& (2147483647 : Int32))), (.int fr)])) t
    refine XS.irem X13.here hx rfl (hb hby at_87) rfl (own_nz H_fr) ?_
    show Steps p.tables e below (T13.setTop (mkF m 88 #[.val (.int p0), .val (.long q1), .second, .val (.int p2), .val (.int p3), .val (.ref b1), .val (.int fr), .unset, .unset] [(.int ((p3 &&& (2147483647 : Int32)) - ((p3 &&& (2147483647 : Int32)) / ((7 : Int32) - fr)) * ((7 : Int32) - fr))), (.int fr)])) t
    refine XS.iadd X13.here hx rfl (hb hby at_88) rfl ?_
    show Steps p.tables e below (T13.setTop (mkF m 89 #[.val (.int p0), .val (.long q1), .second, .val (.int p2), .val (.int p3), .val (.ref b1), .val (.int fr), .unset, .unset] [(.int (fr + ((p3 &&& (2147483647 : Int32)) - ((p3 &&& (2147483647 : Int32)) / ((7 : Int32) - fr)) * ((7 : Int32) - fr))))])) t
    exact k
  obtain ⟨tt, e_tt⟩ : ∃ z, z = (fr + ((p3 &&& (2147483647 : Int32)) - ((p3 &&& (2147483647 : Int32)) / ((7 : Int32) - fr)) * ((7 : Int32) - fr))) := ⟨_, rfl⟩
  rw [← e_tt]
  have H_tt : fr.toInt ≤ tt.toInt ∧ tt.toInt ≤ 6 := by rw [e_tt]; exact own_to p3 H_fr
  obtain ⟨_, _, ⟨T14, L14, k14, n14⟩, -, X14, ⟨Lc14, hQ14, l14, y14, z14⟩, st14⟩ := Jvm.LawKit.callS X13 hx (y := (⟨"com/example/swapscribe/swapscribe/input/TextFileLineEndsPinLaw", "at", "([BIII)I"⟩ : MethodName)) hown (mvT hZ (hw _ (List.mem_of_getElem? (i := 6) rfl))) (mvT hZ (hw _ (List.mem_of_getElem? (i := 7) rfl))) (mvT hZ (hw _ (List.mem_of_getElem? (i := 3) rfl))) (mvT hZ (hw _ (List.mem_of_getElem? (i := 8) rfl))) (by decide) (backOf (W := 0) (own_rm2 l Z aA hw [] b1 (0 : Int32) fr tt f13 h13 n0 Zn13 V13 (own_k6 0 (by decide)) H_tt.2) hZ (hw _ (List.mem_of_getElem? (i := 8) rfl)) (hw _ (List.mem_of_getElem? (i := 3) rfl)) (by decide) (by decide)) (g := (mkF m 98 #[.val (.int p0), .val (.long q1), .second, .val (.int p2), .val (.int p3), .val (.ref b1), .val (.int fr), .val (.int tt), .unset] [(.int tt), (.int fr), (.int (0 : Int32)), (.ref b1)])) rfl (by rw [hml]; rfl) (argsL := [(.ref b1), (.int (0 : Int32)), (.int fr), (.int tt)]) (rest := []) (lenOf own_pd1 rfl) rfl (by show 2 * 0 + _ ≤ _; exact Nat.le_of_eq rfl) (hb hby at_98) (fun _ _ => ⟨rfl, e13, (by decide : 1 + 0 ≤ _), (by decide : 6 + 0 ≤ _)⟩)
  dsimp only [Pt.U, Pt.locs, Pt.cells, Pt.slots] at X14 l14 y14 z14 st14 hQ14
  subst l14 y14 z14
  obtain ⟨rfl, N14q, e14⟩ := hQ14
  have N14 := Fr.app N13 N14q
  obtain ⟨_, _, ⟨T15, L15, k15, n15⟩, -, X15, ⟨Lc15, hQ15, l15, y15, z15⟩, st15⟩ := Jvm.LawKit.callS X14 hx (y := (⟨"com/example/swapscribe/swapscribe/input/TextFileLineEndsPinLaw", "at", "([BIII)I"⟩ : MethodName)) hown (mvT hZ (hw _ (List.mem_of_getElem? (i := 6) rfl))) (mvT hZ (hw _ (List.mem_of_getElem? (i := 7) rfl))) (mvT hZ (hw _ (List.mem_of_getElem? (i := 3) rfl))) (mvT hZ (hw _ (List.mem_of_getElem? (i := 8) rfl))) (by decide) (backOf (W := 1) (own_rm2 l Z aA hw [] b1 (1 : Int32) fr tt f13 h13 n0 Zn13 V13 (own_k6 1 (by decide)) H_tt.2) hZ (hw _ (List.mem_of_getElem? (i := 8) rfl)) (hw _ (List.mem_of_getElem? (i := 3) rfl)) (by decide) (by decide)) (g := (mkF m 108 #[.val (.int p0), .val (.long q1), .second, .val (.int p2), .val (.int p3), .val (.ref b1), .val (.int fr), .val (.int tt), .unset] [(.int tt), (.int fr), (.int (1 : Int32)), (.ref b1), (.int (own_f2_0 (0 : Int32) fr tt f13))])) rfl (by rw [hml]; rfl) (argsL := [(.ref b1), (.int (1 : Int32)), (.int fr), (.int tt)]) (rest := [(.int (own_f2_0 (0 : Int32) fr tt f13))]) (lenOf own_pd1 rfl) rfl (by show 2 * 0 + _ ≤ _; exact Nat.le_of_eq rfl) (hb hby at_108) (fun _ _ => ⟨rfl, e14, (by decide : 1 + 0 ≤ _), (by decide : 6 + 0 ≤ _)⟩)
  dsimp only [Pt.U, Pt.locs, Pt.cells, Pt.slots] at X15 l15 y15 z15 st15 hQ15
  subst l15 y15 z15
  obtain ⟨rfl, N15q, e15⟩ := hQ15
  have N15 := Fr.app N14 N15q
  obtain ⟨_, _, ⟨T16, L16, k16, n16⟩, -, X16, ⟨Lc16, hQ16, l16, y16, z16⟩, st16⟩ := Jvm.LawKit.callS X15 hx (y := (⟨"com/example/swapscribe/swapscribe/input/TextFileLineEndsPinLaw", "at", "([BIII)I"⟩ : MethodName)) hown (mvT hZ (hw _ (List.mem_of_getElem? (i := 6) rfl))) (mvT hZ (hw _ (List.mem_of_getElem? (i := 7) rfl))) (mvT hZ (hw _ (List.mem_of_getElem? (i := 3) rfl))) (mvT hZ (hw _ (List.mem_of_getElem? (i := 8) rfl))) (by decide) (backOf (W := 1) (own_rm2 l Z aA hw [] b1 (2 : Int32) fr tt f13 h13 n0 Zn13 V13 (own_k6 2 (by decide)) H_tt.2) hZ (hw _ (List.mem_of_getElem? (i := 8) rfl)) (hw _ (List.mem_of_getElem? (i := 3) rfl)) (by decide) (by decide)) (g := (mkF m 119 #[.val (.int p0), .val (.long q1), .second, .val (.int p2), .val (.int p3), .val (.ref b1), .val (.int fr), .val (.int tt), .unset] [(.int tt), (.int fr), (.int (2 : Int32)), (.ref b1), (.int ((own_f2_0 (0 : Int32) fr tt f13) + (own_f2_0 (1 : Int32) fr tt f13)))])) rfl (by rw [hml]; rfl) (argsL := [(.ref b1), (.int (2 : Int32)), (.int fr), (.int tt)]) (rest := [(.int ((own_f2_0 (0 : Int32) fr tt f13) + (own_f2_0 (1 : Int32) fr tt f13)))]) (lenOf own_pd1 rfl) rfl (by show 2 * 0 + _ ≤ _; exact Nat.le_of_eq rfl) (hb hby at_119) (fun _ _ => ⟨rfl, e15, (by decide : 1 + 0 ≤ _), (by decide : 6 + 0 ≤ _)⟩)
  dsimp only [Pt.U, Pt.locs, Pt.cells, Pt.slots] at X16 l16 y16 z16 st16 hQ16
  subst l16 y16 z16
  obtain ⟨rfl, N16q, e16⟩ := hQ16
  have N16 := Fr.app N15 N16q
  obtain ⟨_, _, ⟨T17, L17, k17, n17⟩, -, X17, ⟨Lc17, hQ17, l17, y17, z17⟩, st17⟩ := Jvm.LawKit.callS X16 hx (y := (⟨"com/example/swapscribe/swapscribe/input/TextFileLineEndsPinLaw", "at", "([BIII)I"⟩ : MethodName)) hown (mvT hZ (hw _ (List.mem_of_getElem? (i := 6) rfl))) (mvT hZ (hw _ (List.mem_of_getElem? (i := 7) rfl))) (mvT hZ (hw _ (List.mem_of_getElem? (i := 3) rfl))) (mvT hZ (hw _ (List.mem_of_getElem? (i := 8) rfl))) (by decide) (backOf (W := 1) (own_rm2 l Z aA hw [] b1 (3 : Int32) fr tt f13 h13 n0 Zn13 V13 (own_k6 3 (by decide)) H_tt.2) hZ (hw _ (List.mem_of_getElem? (i := 8) rfl)) (hw _ (List.mem_of_getElem? (i := 3) rfl)) (by decide) (by decide)) (g := (mkF m 130 #[.val (.int p0), .val (.long q1), .second, .val (.int p2), .val (.int p3), .val (.ref b1), .val (.int fr), .val (.int tt), .unset] [(.int tt), (.int fr), (.int (3 : Int32)), (.ref b1), (.int (((own_f2_0 (0 : Int32) fr tt f13) + (own_f2_0 (1 : Int32) fr tt f13)) + (own_f2_0 (2 : Int32) fr tt f13)))])) rfl (by rw [hml]; rfl) (argsL := [(.ref b1), (.int (3 : Int32)), (.int fr), (.int tt)]) (rest := [(.int (((own_f2_0 (0 : Int32) fr tt f13) + (own_f2_0 (1 : Int32) fr tt f13)) + (own_f2_0 (2 : Int32) fr tt f13)))]) (lenOf own_pd1 rfl) rfl (by show 2 * 0 + _ ≤ _; exact Nat.le_of_eq rfl) (hb hby at_130) (fun _ _ => ⟨rfl, e16, (by decide : 1 + 0 ≤ _), (by decide : 6 + 0 ≤ _)⟩)
  dsimp only [Pt.U, Pt.locs, Pt.cells, Pt.slots] at X17 l17 y17 z17 st17 hQ17
  subst l17 y17 z17
  obtain ⟨rfl, N17q, e17⟩ := hQ17
  have N17 := Fr.app N16 N17q
  obtain ⟨_, _, ⟨T18, L18, k18, n18⟩, -, X18, ⟨Lc18, hQ18, l18, y18, z18⟩, st18⟩ := Jvm.LawKit.callS X17 hx (y := (⟨"com/example/swapscribe/swapscribe/input/TextFileLineEndsPinLaw", "at", "([BIII)I"⟩ : MethodName)) hown (mvT hZ (hw _ (List.mem_of_getElem? (i := 6) rfl))) (mvT hZ (hw _ (List.mem_of_getElem? (i := 7) rfl))) (mvT hZ (hw _ (List.mem_of_getElem? (i := 3) rfl))) (mvT hZ (hw _ (List.mem_of_getElem? (i := 8) rfl))) (by decide) (backOf (W := 1) (own_rm2 l Z aA hw [] b1 (4 : Int32) fr tt f13 h13 n0 Zn13 V13 (own_k6 4 (by decide)) H_tt.2) hZ (hw _ (List.mem_of_getElem? (i := 8) rfl)) (hw _ (List.mem_of_getElem? (i := 3) rfl)) (by decide) (by decide)) (g := (mkF m 141 #[.val (.int p0), .val (.long q1), .second, .val (.int p2), .val (.int p3), .val (.ref b1), .val (.int fr), .val (.int tt), .unset] [(.int tt), (.int fr), (.int (4 : Int32)), (.ref b1), (.int ((((own_f2_0 (0 : Int32) fr tt f13) + (own_f2_0 (1 : Int32) fr tt f13)) + (own_f2_0 (2 : Int32) fr tt f13)) + (own_f2_0 (3 : Int32) fr tt f13)))])) rfl (by rw [hml]; rfl) (argsL := [(.ref b1), (.int (4 : Int32)), (.int fr), (.int tt)]) (rest := [(.int ((((own_f2_0 (0 : Int32) fr tt f13) + (own_f2_0 (1 : Int32) fr tt f13)) + (own_f2_0 (2 : Int32) fr tt f13)) + (own_f2_0 (3 : Int32) fr tt f13)))]) (lenOf own_pd1 rfl) rfl (by show 2 * 0 + _ ≤ _; exact Nat.le_of_eq rfl) (hb hby at_141) (fun _ _ => ⟨rfl, e17, (by decide : 1 + 0 ≤ _), (by decide : 6 + 0 ≤ _)⟩)
  dsimp only [Pt.U, Pt.locs, Pt.cells, Pt.slots] at X18 l18 y18 z18 st18 hQ18
  subst l18 y18 z18
  obtain ⟨rfl, N18q, e18⟩ := hQ18
  have N18 := Fr.app N17 N18q
  obtain ⟨_, _, ⟨T19, L19, k19, n19⟩, -, X19, ⟨Lc19, hQ19, l19, y19, z19⟩, st19⟩ := Jvm.LawKit.callS X18 hx (y := (⟨"com/example/swapscribe/swapscribe/input/TextFileLineEndsPinLaw", "at", "([BIII)I"⟩ : MethodName)) hown (mvT hZ (hw _ (List.mem_of_getElem? (i := 6) rfl))) (mvT hZ (hw _ (List.mem_of_getElem? (i := 7) rfl))) (mvT hZ (hw _ (List.mem_of_getElem? (i := 3) rfl))) (mvT hZ (hw _ (List.mem_of_getElem? (i := 8) rfl))) (by decide) (backOf (W := 1) (own_rm2 l Z aA hw [] b1 (5 : Int32) fr tt f13 h13 n0 Zn13 V13 (own_k6 5 (by decide)) H_tt.2) hZ (hw _ (List.mem_of_getElem? (i := 8) rfl)) (hw _ (List.mem_of_getElem? (i := 3) rfl)) (by decide) (by decide)) (g := (mkF m 152 #[.val (.int p0), .val (.long q1), .second, .val (.int p2), .val (.int p3), .val (.ref b1), .val (.int fr), .val (.int tt), .unset] [(.int tt), (.int fr), (.int (5 : Int32)), (.ref b1), (.int (((((own_f2_0 (0 : Int32) fr tt f13) + (own_f2_0 (1 : Int32) fr tt f13)) + (own_f2_0 (2 : Int32) fr tt f13)) + (own_f2_0 (3 : Int32) fr tt f13)) + (own_f2_0 (4 : Int32) fr tt f13)))])) rfl (by rw [hml]; rfl) (argsL := [(.ref b1), (.int (5 : Int32)), (.int fr), (.int tt)]) (rest := [(.int (((((own_f2_0 (0 : Int32) fr tt f13) + (own_f2_0 (1 : Int32) fr tt f13)) + (own_f2_0 (2 : Int32) fr tt f13)) + (own_f2_0 (3 : Int32) fr tt f13)) + (own_f2_0 (4 : Int32) fr tt f13)))]) (lenOf own_pd1 rfl) rfl (by show 2 * 0 + _ ≤ _; exact Nat.le_of_eq rfl) (hb hby at_152) (fun _ _ => ⟨rfl, e18, (by decide : 1 + 0 ≤ _), (by decide : 6 + 0 ≤ _)⟩)
  dsimp only [Pt.U, Pt.locs, Pt.cells, Pt.slots] at X19 l19 y19 z19 st19 hQ19
  subst l19 y19 z19
  obtain ⟨rfl, N19q, e19⟩ := hQ19
  have N19 := Fr.app N18 N19q
  obtain ⟨_, _, ⟨T20, L20, k20, n20⟩, -, X20, ⟨Lc20, hQ20, l20, y20, z20⟩, st20⟩ := Jvm.LawKit.callS X19 hx (y := (⟨"com/example/swapscribe/swapscribe/input/TextFile", "lineEnds", "([BII)I"⟩ : MethodName)) hown (mvT hZ (hw _ (List.mem_of_getElem? (i := 9) rfl))) (mvT hZ (hw _ (List.mem_of_getElem? (i := 10) rfl))) (mvT hZ (hw _ (List.mem_of_getElem? (i := 11) rfl))) (mvT hZ (hw _ (List.mem_of_getElem? (i := 12) rfl))) (by decide) (backOf (W := 0) (own_rm3 l Z aA hw [] b1 fr tt f13 h13 n0 Zn13 V13 H_fr.1 H_tt.2) hZ (hw _ (List.mem_of_getElem? (i := 12) rfl)) (hw _ (List.mem_of_getElem? (i := 11) rfl)) (by decide) (by decide)) (g := (mkF m 164 #[.val (.int p0), .val (.long q1), .second, .val (.int p2), .val (.int p3), .val (.ref b1), .val (.int fr), .val (.int tt), .val (.int ((((((own_f2_0 (0 : Int32) fr tt f13) + (own_f2_0 (1 : Int32) fr tt f13)) + (own_f2_0 (2 : Int32) fr tt f13)) + (own_f2_0 (3 : Int32) fr tt f13)) + (own_f2_0 (4 : Int32) fr tt f13)) + (own_f2_0 (5 : Int32) fr tt f13)))] [(.int tt), (.int fr), (.ref b1)])) rfl (by rw [hml]; rfl) (argsL := [(.ref b1), (.int fr), (.int tt)]) (rest := []) (lenOf own_pd2 rfl) rfl (by show 2 * 0 + _ ≤ _; exact Nat.le_of_eq rfl) (hb hby at_164) (fun _ _ => ⟨rfl, e19, (by decide : 1 + 0 ≤ _), (by decide : 6 + 0 ≤ _)⟩)
  dsimp only [Pt.U, Pt.locs, Pt.cells, Pt.slots] at X20 l20 y20 z20 st20 hQ20
  subst l20 y20 z20
  obtain ⟨rfl, N20q, e20⟩ := hQ20
  have N20 := Fr.app N19 N20q
  refine Owe.step (T' := T20) (g' := (mkF m 169 #[.val (.int p0), .val (.long q1), .second, .val (.int p2), .val (.int p3), .val (.ref b1), .val (.int fr), .val (.int tt), .val (.int ((((((own_f2_0 (0 : Int32) fr tt f13) + (own_f2_0 (1 : Int32) fr tt f13)) + (own_f2_0 (2 : Int32) fr tt f13)) + (own_f2_0 (3 : Int32) fr tt f13)) + (own_f2_0 (4 : Int32) fr tt f13)) + (own_f2_0 (5 : Int32) fr tt f13)))] [(.int ((((((own_f2_0 (0 : Int32) fr tt f13) + (own_f2_0 (1 : Int32) fr tt f13)) + (own_f2_0 (2 : Int32) fr tt f13)) + (own_f2_0 (3 : Int32) fr tt f13)) + (own_f2_0 (4 : Int32) fr tt f13)) + (own_f2_0 (5 : Int32) fr tt f13))), (.int (own_f3_0 fr tt f13))])) (fun t k => ?_) ?_
  · show Steps p.tables e below (T13.setTop (mkF m 89 #[.val (.int p0), .val (.long q1), .second, .val (.int p2), .val (.int p3), .val (.ref b1), .val (.int fr), .unset, .unset] [(.int tt)])) t
    refine XS.istore X13.here hx rfl (hb hby at_89) rfl (l' := #[.val (.int p0), .val (.long q1), .second, .val (.int p2), .val (.int p3), .val (.ref b1), .val (.int fr), .val (.int tt), .unset]) rfl ?_
    show Steps p.tables e below (T13.setTop (mkF m 91 #[.val (.int p0), .val (.long q1), .second, .val (.int p2), .val (.int p3), .val (.ref b1), .val (.int fr), .val (.int tt), .unset] [])) t
    refine XS.aload X13.here hx rfl (hb hby at_91) rfl rfl ?_
    show Steps p.tables e below (T13.setTop (mkF m 93 #[.val (.int p0), .val (.long q1), .second, .val (.int p2), .val (.int p3), .val (.ref b1), .val (.int fr), .val (.int tt), .unset] [(.ref b1)])) t
    refine XS.iconst X13.here hx rfl (hb hby at_93) ?_
    show Steps p.tables e below (T13.setTop (mkF m 94 #[.val (.int p0), .val (.long q1), .second, .val (.int p2), .val (.int p3), .val (.ref b1), .val (.int fr), .val (.int tt), .unset] [(.int (0 : Int32)), (.ref b1)])) t
    refine XS.iload X13.here hx rfl (hb hby at_94) rfl ?_
    show Steps p.tables e below (T13.setTop (mkF m 96 #[.val (.int p0), .val (.long q1), .second, .val (.int p2), .val (.int p3), .val (.ref b1), .val (.int fr), .val (.int tt), .unset] [(.int fr), (.int (0 : Int32)), (.ref b1)])) t
    refine XS.iload X13.here hx rfl (hb hby at_96) rfl ?_
    show Steps p.tables e below (T13.setTop (mkF m 98 #[.val (.int p0), .val (.long q1), .second, .val (.int p2), .val (.int p3), .val (.ref b1), .val (.int fr), .val (.int tt), .unset] [(.int tt), (.int fr), (.int (0 : Int32)), (.ref b1)])) t
    refine st14 _ ?_
    show Steps p.tables e below (T14.setTop (mkF m 101 #[.val (.int p0), .val (.long q1), .second, .val (.int p2), .val (.int p3), .val (.ref b1), .val (.int fr), .val (.int tt), .unset] [(.int (own_f2_0 (0 : Int32) fr tt f13))])) t
    refine XS.aload X14.here hx rfl (hb hby at_101) rfl rfl ?_
    show Steps p.tables e below (T14.setTop (mkF m 103 #[.val (.int p0), .val (.long q1), .second, .val (.int p2), .val (.int p3), .val (.ref b1), .val (.int fr), .val (.int tt), .unset] [(.ref b1), (.int (own_f2_0 (0 : Int32) fr tt f13))])) t
    refine XS.iconst X14.here hx rfl (hb hby at_103) ?_
    show Steps p.tables e below (T14.setTop (mkF m 104 #[.val (.int p0), .val (.long q1), .second, .val (.int p2), .val (.int p3), .val (.ref b1), .val (.int fr), .val (.int tt), .unset] [(.int (1 : Int32)), (.ref b1), (.int (own_f2_0 (0 : Int32) fr tt f13))])) t
    refine XS.iload X14.here hx rfl (hb hby at_104) rfl ?_
    show Steps p.tables e below (T14.setTop (mkF m 106 #[.val (.int p0), .val (.long q1), .second, .val (.int p2), .val (.int p3), .val (.ref b1), .val (.int fr), .val (.int tt), .unset] [(.int fr), (.int (1 : Int32)), (.ref b1), (.int (own_f2_0 (0 : Int32) fr tt f13))])) t
    refine XS.iload X14.here hx rfl (hb hby at_106) rfl ?_
    show Steps p.tables e below (T14.setTop (mkF m 108 #[.val (.int p0), .val (.long q1), .second, .val (.int p2), .val (.int p3), .val (.ref b1), .val (.int fr), .val (.int tt), .unset] [(.int tt), (.int fr), (.int (1 : Int32)), (.ref b1), (.int (own_f2_0 (0 : Int32) fr tt f13))])) t
    refine st15 _ ?_
    show Steps p.tables e below (T15.setTop (mkF m 111 #[.val (.int p0), .val (.long q1), .second, .val (.int p2), .val (.int p3), .val (.ref b1), .val (.int fr), .val (.int tt), .unset] [(.int (own_f2_0 (1 : Int32) fr tt f13)), (.int (own_f2_0 (0 : Int32) fr tt f13))])) t
    refine XS.iadd X15.here hx rfl (hb hby at_111) rfl ?_
    show Steps p.tables e below (T15.setTop (mkF m 112 #[.val (.int p0), .val (.long q1), .second, .val (.int p2), .val (.int p3), .val (.ref b1), .val (.int fr), .val (.int tt), .unset] [(.int ((own_f2_0 (0 : Int32) fr tt f13) + (own_f2_0 (1 : Int32) fr tt f13)))])) t
    refine XS.aload X15.here hx rfl (hb hby at_112) rfl rfl ?_
    show Steps p.tables e below (T15.setTop (mkF m 114 #[.val (.int p0), .val (.long q1), .second, .val (.int p2), .val (.int p3), .val (.ref b1), .val (.int fr), .val (.int tt), .unset] [(.ref b1), (.int ((own_f2_0 (0 : Int32) fr tt f13) + (own_f2_0 (1 : Int32) fr tt f13)))])) t
    refine XS.iconst X15.here hx rfl (hb hby at_114) ?_
    show Steps p.tables e below (T15.setTop (mkF m 115 #[.val (.int p0), .val (.long q1), .second, .val (.int p2), .val (.int p3), .val (.ref b1), .val (.int fr), .val (.int tt), .unset] [(.int (2 : Int32)), (.ref b1), (.int ((own_f2_0 (0 : Int32) fr tt f13) + (own_f2_0 (1 : Int32) fr tt f13)))])) t
    refine XS.iload X15.here hx rfl (hb hby at_115) rfl ?_
    show Steps p.tables e below (T15.setTop (mkF m 117 #[.val (.int p0), .val (.long q1), .second, .val (.int p2), .val (.int p3), .val (.ref b1), .val (.int fr), .val (.int tt), .unset] [(.int fr), (.int (2 : Int32)), (.ref b1), (.int ((own_f2_0 (0 : Int32) fr tt f13) + (own_f2_0 (1 : Int32) fr tt f13)))])) t
    refine XS.iload X15.here hx rfl (hb hby at_117) rfl ?_
    show Steps p.tables e below (T15.setTop (mkF m 119 #[.val (.int p0), .val (.long q1), .second, .val (.int p2), .val (.int p3), .val (.ref b1), .val (.int fr), .val (.int tt), .unset] [(.int tt), (.int fr), (.int (2 : Int32)), (.ref b1), (.int ((own_f2_0 (0 : Int32) fr tt f13) + (own_f2_0 (1 : Int32) fr tt f13)))])) t
    refine st16 _ ?_
    show Steps p.tables e below (T16.setTop (mkF m 122 #[.val (.int p0), .val (.long q1), .second, .val (.int p2), .val (.int p3), .val (.ref b1), .val (.int fr), .val (.int tt), .unset] [(.int (own_f2_0 (2 : Int32) fr tt f13)), (.int ((own_f2_0 (0 : Int32) fr tt f13) + (own_f2_0 (1 : Int32) fr tt f13)))])) t
    refine XS.iadd X16.here hx rfl (hb hby at_122) rfl ?_
    show Steps p.tables e below (T16.setTop (mkF m 123 #[.val (.int p0), .val (.long q1), .second, .val (.int p2), .val (.int p3), .val (.ref b1), .val (.int fr), .val (.int tt), .unset] [(.int (((own_f2_0 (0 : Int32) fr tt f13) + (own_f2_0 (1 : Int32) fr tt f13)) + (own_f2_0 (2 : Int32) fr tt f13)))])) t
    refine XS.aload X16.here hx rfl (hb hby at_123) rfl rfl ?_
    show Steps p.tables e below (T16.setTop (mkF m 125 #[.val (.int p0), .val (.long q1), .second, .val (.int p2), .val (.int p3), .val (.ref b1), .val (.int fr), .val (.int tt), .unset] [(.ref b1), (.int (((own_f2_0 (0 : Int32) fr tt f13) + (own_f2_0 (1 : Int32) fr tt f13)) + (own_f2_0 (2 : Int32) fr tt f13)))])) t
    refine XS.iconst X16.here hx rfl (hb hby at_125) ?_
    show Steps p.tables e below (T16.setTop (mkF m 126 #[.val (.int p0), .val (.long q1), .second, .val (.int p2), .val (.int p3), .val (.ref b1), .val (.int fr), .val (.int tt), .unset] [(.int (3 : Int32)), (.ref b1), (.int (((own_f2_0 (0 : Int32) fr tt f13) + (own_f2_0 (1 : Int32) fr tt f13)) + (own_f2_0 (2 : Int32) fr tt f13)))])) t
    refine XS.iload X16.here hx rfl (hb hby at_126) rfl ?_
    show Steps p.tables e below (T16.setTop (mkF m 128 #[.val (.int p0), .val (.long q1), .second, .val (.int p2), .val (.int p3), .val (.ref b1), .val (.int fr), .val (.int tt), .unset] [(.int fr), (.int (3 : Int32)), (.ref b1), (.int (((own_f2_0 (0 : Int32) fr tt f13) + (own_f2_0 (1 : Int32) fr tt f13)) + (own_f2_0 (2 : Int32) fr tt f13)))])) t
    refine XS.iload X16.here hx rfl (hb hby at_128) rfl ?_
    show Steps p.tables e below (T16.setTop (mkF m 130 #[.val (.int p0), .val (.long q1), .second, .val (.int p2), .val (.int p3), .val (.ref b1), .val (.int fr), .val (.int tt), .unset] [(.int tt), (.int fr), (.int (3 : Int32)), (.ref b1), (.int (((own_f2_0 (0 : Int32) fr tt f13) + (own_f2_0 (1 : Int32) fr tt f13)) + (own_f2_0 (2 : Int32) fr tt f13)))])) t
    refine st17 _ ?_
    show Steps p.tables e below (T17.setTop (mkF m 133 #[.val (.int p0), .val (.long q1), .second, .val (.int p2), .val (.int p3), .val (.ref b1), .val (.int fr), .val (.int tt), .unset] [(.int (own_f2_0 (3 : Int32) fr tt f13)), (.int (((own_f2_0 (0 : Int32) fr tt f13) + (own_f2_0 (1 : Int32) fr tt f13)) + (own_f2_0 (2 : Int32) fr tt f13)))])) t
    refine XS.iadd X17.here hx rfl (hb hby at_133) rfl ?_
    show Steps p.tables e below (T17.setTop (mkF m 134 #[.val (.int p0), .val (.long q1), .second, .val (.int p2), .val (.int p3), .val (.ref b1), .val (.int fr), .val (.int tt), .unset] [(.int ((((own_f2_0 (0 : Int32) fr tt f13) + (own_f2_0 (1 : Int32) fr tt f13)) + (own_f2_0 (2 : Int32) fr tt f13)) + (own_f2_0 (3 : Int32) fr tt f13)))])) t
    refine XS.aload X17.here hx rfl (hb hby at_134) rfl rfl ?_
    show Steps p.tables e below (T17.setTop (mkF m 136 #[.val (.int p0), .val (.long q1), .second, .val (.int p2), .val (.int p3), .val (.ref b1), .val (.int fr), .val (.int tt), .unset] [(.ref b1), (.int ((((own_f2_0 (0 : Int32) fr tt f13) + (own_f2_0 (1 : Int32) fr tt f13)) + (own_f2_0 (2 : Int32) fr tt f13)) + (own_f2_0 (3 : Int32) fr tt f13)))])) t
    refine XS.iconst X17.here hx rfl (hb hby at_136) ?_
    show Steps p.tables e below (T17.setTop (mkF m 137 #[.val (.int p0), .val (.long q1), .second, .val (.int p2), .val (.int p3), .val (.ref b1), .val (.int fr), .val (.int tt), .unset] [(.int (4 : Int32)), (.ref b1), (.int ((((own_f2_0 (0 : Int32) fr tt f13) + (own_f2_0 (1 : Int32) fr tt f13)) + (own_f2_0 (2 : Int32) fr tt f13)) + (own_f2_0 (3 : Int32) fr tt f13)))])) t
    refine XS.iload X17.here hx rfl (hb hby at_137) rfl ?_
    show Steps p.tables e below (T17.setTop (mkF m 139 #[.val (.int p0), .val (.long q1), .second, .val (.int p2), .val (.int p3), .val (.ref b1), .val (.int fr), .val (.int tt), .unset] [(.int fr), (.int (4 : Int32)), (.ref b1), (.int ((((own_f2_0 (0 : Int32) fr tt f13) + (own_f2_0 (1 : Int32) fr tt f13)) + (own_f2_0 (2 : Int32) fr tt f13)) + (own_f2_0 (3 : Int32) fr tt f13)))])) t
    refine XS.iload X17.here hx rfl (hb hby at_139) rfl ?_
    show Steps p.tables e below (T17.setTop (mkF m 141 #[.val (.int p0), .val (.long q1), .second, .val (.int p2), .val (.int p3), .val (.ref b1), .val (.int fr), .val (.int tt), .unset] [(.int tt), (.int fr), (.int (4 : Int32)), (.ref b1), (.int ((((own_f2_0 (0 : Int32) fr tt f13) + (own_f2_0 (1 : Int32) fr tt f13)) + (own_f2_0 (2 : Int32) fr tt f13)) + (own_f2_0 (3 : Int32) fr tt f13)))])) t
    refine st18 _ ?_
    show Steps p.tables e below (T18.setTop (mkF m 144 #[.val (.int p0), .val (.long q1), .second, .val (.int p2), .val (.int p3), .val (.ref b1), .val (.int fr), .val (.int tt), .unset] [(.int (own_f2_0 (4 : Int32) fr tt f13)), (.int ((((own_f2_0 (0 : Int32) fr tt f13) + (own_f2_0 (1 : Int32) fr tt f13)) + (own_f2_0 (2 : Int32) fr tt f13)) + (own_f2_0 (3 : Int32) fr tt f13)))])) t
    refine XS.iadd X18.here hx rfl (hb hby at_144) rfl ?_
    show Steps p.tables e below (T18.setTop (mkF m 145 #[.val (.int p0), .val (.long q1), .second, .val (.int p2), .val (.int p3), .val (.ref b1), .val (.int fr), .val (.int tt), .unset] [(.int (((((own_f2_0 (0 : Int32) fr tt f13) + (own_f2_0 (1 : Int32) fr tt f13)) + (own_f2_0 (2 : Int32) fr tt f13)) + (own_f2_0 (3 : Int32) fr tt f13)) + (own_f2_0 (4 : Int32) fr tt f13)))])) t
    refine XS.aload X18.here hx rfl (hb hby at_145) rfl rfl ?_
    show Steps p.tables e below (T18.setTop (mkF m 147 #[.val (.int p0), .val (.long q1), .second, .val (.int p2), .val (.int p3), .val (.ref b1), .val (.int fr), .val (.int tt), .unset] [(.ref b1), (.int (((((own_f2_0 (0 : Int32) fr tt f13) + (own_f2_0 (1 : Int32) fr tt f13)) + (own_f2_0 (2 : Int32) fr tt f13)) + (own_f2_0 (3 : Int32) fr tt f13)) + (own_f2_0 (4 : Int32) fr tt f13)))])) t
    refine XS.iconst X18.here hx rfl (hb hby at_147) ?_
    show Steps p.tables e below (T18.setTop (mkF m 148 #[.val (.int p0), .val (.long q1), .second, .val (.int p2), .val (.int p3), .val (.ref b1), .val (.int fr), .val (.int tt), .unset] [(.int (5 : Int32)), (.ref b1), (.int (((((own_f2_0 (0 : Int32) fr tt f13) + (own_f2_0 (1 : Int32) fr tt f13)) + (own_f2_0 (2 : Int32) fr tt f13)) + (own_f2_0 (3 : Int32) fr tt f13)) + (own_f2_0 (4 : Int32) fr tt f13)))])) t
    refine XS.iload X18.here hx rfl (hb hby at_148) rfl ?_
    show Steps p.tables e below (T18.setTop (mkF m 150 #[.val (.int p0), .val (.long q1), .second, .val (.int p2), .val (.int p3), .val (.ref b1), .val (.int fr), .val (.int tt), .unset] [(.int fr), (.int (5 : Int32)), (.ref b1), (.int (((((own_f2_0 (0 : Int32) fr tt f13) + (own_f2_0 (1 : Int32) fr tt f13)) + (own_f2_0 (2 : Int32) fr tt f13)) + (own_f2_0 (3 : Int32) fr tt f13)) + (own_f2_0 (4 : Int32) fr tt f13)))])) t
    refine XS.iload X18.here hx rfl (hb hby at_150) rfl ?_
    show Steps p.tables e below (T18.setTop (mkF m 152 #[.val (.int p0), .val (.long q1), .second, .val (.int p2), .val (.int p3), .val (.ref b1), .val (.int fr), .val (.int tt), .unset] [(.int tt), (.int fr), (.int (5 : Int32)), (.ref b1), (.int (((((own_f2_0 (0 : Int32) fr tt f13) + (own_f2_0 (1 : Int32) fr tt f13)) + (own_f2_0 (2 : Int32) fr tt f13)) + (own_f2_0 (3 : Int32) fr tt f13)) + (own_f2_0 (4 : Int32) fr tt f13)))])) t
    refine st19 _ ?_
    show Steps p.tables e below (T19.setTop (mkF m 155 #[.val (.int p0), .val (.long q1), .second, .val (.int p2), .val (.int p3), .val (.ref b1), .val (.int fr), .val (.int tt), .unset] [(.int (own_f2_0 (5 : Int32) fr tt f13)), (.int (((((own_f2_0 (0 : Int32) fr tt f13) + (own_f2_0 (1 : Int32) fr tt f13)) + (own_f2_0 (2 : Int32) fr tt f13)) + (own_f2_0 (3 : Int32) fr tt f13)) + (own_f2_0 (4 : Int32) fr tt f13)))])) t
    refine XS.iadd X19.here hx rfl (hb hby at_155) rfl ?_
    show Steps p.tables e below (T19.setTop (mkF m 156 #[.val (.int p0), .val (.long q1), .second, .val (.int p2), .val (.int p3), .val (.ref b1), .val (.int fr), .val (.int tt), .unset] [(.int ((((((own_f2_0 (0 : Int32) fr tt f13) + (own_f2_0 (1 : Int32) fr tt f13)) + (own_f2_0 (2 : Int32) fr tt f13)) + (own_f2_0 (3 : Int32) fr tt f13)) + (own_f2_0 (4 : Int32) fr tt f13)) + (own_f2_0 (5 : Int32) fr tt f13)))])) t
    refine XS.istore X19.here hx rfl (hb hby at_156) rfl (l' := #[.val (.int p0), .val (.long q1), .second, .val (.int p2), .val (.int p3), .val (.ref b1), .val (.int fr), .val (.int tt), .val (.int ((((((own_f2_0 (0 : Int32) fr tt f13) + (own_f2_0 (1 : Int32) fr tt f13)) + (own_f2_0 (2 : Int32) fr tt f13)) + (own_f2_0 (3 : Int32) fr tt f13)) + (own_f2_0 (4 : Int32) fr tt f13)) + (own_f2_0 (5 : Int32) fr tt f13)))]) rfl ?_
    show Steps p.tables e below (T19.setTop (mkF m 158 #[.val (.int p0), .val (.long q1), .second, .val (.int p2), .val (.int p3), .val (.ref b1), .val (.int fr), .val (.int tt), .val (.int ((((((own_f2_0 (0 : Int32) fr tt f13) + (own_f2_0 (1 : Int32) fr tt f13)) + (own_f2_0 (2 : Int32) fr tt f13)) + (own_f2_0 (3 : Int32) fr tt f13)) + (own_f2_0 (4 : Int32) fr tt f13)) + (own_f2_0 (5 : Int32) fr tt f13)))] [])) t
    refine XS.aload X19.here hx rfl (hb hby at_158) rfl rfl ?_
    show Steps p.tables e below (T19.setTop (mkF m 160 #[.val (.int p0), .val (.long q1), .second, .val (.int p2), .val (.int p3), .val (.ref b1), .val (.int fr), .val (.int tt), .val (.int ((((((own_f2_0 (0 : Int32) fr tt f13) + (own_f2_0 (1 : Int32) fr tt f13)) + (own_f2_0 (2 : Int32) fr tt f13)) + (own_f2_0 (3 : Int32) fr tt f13)) + (own_f2_0 (4 : Int32) fr tt f13)) + (own_f2_0 (5 : Int32) fr tt f13)))] [(.ref b1)])) t
    refine XS.iload X19.here hx rfl (hb hby at_160) rfl ?_
    show Steps p.tables e below (T19.setTop (mkF m 162 #[.val (.int p0), .val (.long q1), .second, .val (.int p2), .val (.int p3), .val (.ref b1), .val (.int fr), .val (.int tt), .val (.int ((((((own_f2_0 (0 : Int32) fr tt f13) + (own_f2_0 (1 : Int32) fr tt f13)) + (own_f2_0 (2 : Int32) fr tt f13)) + (own_f2_0 (3 : Int32) fr tt f13)) + (own_f2_0 (4 : Int32) fr tt f13)) + (own_f2_0 (5 : Int32) fr tt f13)))] [(.int fr), (.ref b1)])) t
    refine XS.iload X19.here hx rfl (hb hby at_162) rfl ?_
    show Steps p.tables e below (T19.setTop (mkF m 164 #[.val (.int p0), .val (.long q1), .second, .val (.int p2), .val (.int p3), .val (.ref b1), .val (.int fr), .val (.int tt), .val (.int ((((((own_f2_0 (0 : Int32) fr tt f13) + (own_f2_0 (1 : Int32) fr tt f13)) + (own_f2_0 (2 : Int32) fr tt f13)) + (own_f2_0 (3 : Int32) fr tt f13)) + (own_f2_0 (4 : Int32) fr tt f13)) + (own_f2_0 (5 : Int32) fr tt f13)))] [(.int tt), (.int fr), (.ref b1)])) t
    refine st20 _ ?_
    show Steps p.tables e below (T20.setTop (mkF m 167 #[.val (.int p0), .val (.long q1), .second, .val (.int p2), .val (.int p3), .val (.ref b1), .val (.int fr), .val (.int tt), .val (.int ((((((own_f2_0 (0 : Int32) fr tt f13) + (own_f2_0 (1 : Int32) fr tt f13)) + (own_f2_0 (2 : Int32) fr tt f13)) + (own_f2_0 (3 : Int32) fr tt f13)) + (own_f2_0 (4 : Int32) fr tt f13)) + (own_f2_0 (5 : Int32) fr tt f13)))] [(.int (own_f3_0 fr tt f13))])) t
    refine XS.iload X20.here hx rfl (hb hby at_167) rfl ?_
    show Steps p.tables e below (T20.setTop (mkF m 169 #[.val (.int p0), .val (.long q1), .second, .val (.int p2), .val (.int p3), .val (.ref b1), .val (.int fr), .val (.int tt), .val (.int ((((((own_f2_0 (0 : Int32) fr tt f13) + (own_f2_0 (1 : Int32) fr tt f13)) + (own_f2_0 (2 : Int32) fr tt f13)) + (own_f2_0 (3 : Int32) fr tt f13)) + (own_f2_0 (4 : Int32) fr tt f13)) + (own_f2_0 (5 : Int32) fr tt f13)))] [(.int ((((((own_f2_0 (0 : Int32) fr tt f13) + (own_f2_0 (1 : Int32) fr tt f13)) + (own_f2_0 (2 : Int32) fr tt f13)) + (own_f2_0 (3 : Int32) fr tt f13)) + (own_f2_0 (4 : Int32) fr tt f13)) + (own_f2_0 (5 : Int32) fr tt f13))), (.int (own_f3_0 fr tt f13))])) t
    exact k
  by_cases hc169 : (own_f3_0 fr tt f13) = ((((((own_f2_0 (0 : Int32) fr tt f13) + (own_f2_0 (1 : Int32) fr tt f13)) + (own_f2_0 (2 : Int32) fr tt f13)) + (own_f2_0 (3 : Int32) fr tt f13)) + (own_f2_0 (4 : Int32) fr tt f13)) + (own_f2_0 (5 : Int32) fr tt f13))
  · refine Owe.step (T' := T20) (g' := (mkF m 172 #[.val (.int p0), .val (.long q1), .second, .val (.int p2), .val (.int p3), .val (.ref b1), .val (.int fr), .val (.int tt), .val (.int ((((((own_f2_0 (0 : Int32) fr tt f13) + (own_f2_0 (1 : Int32) fr tt f13)) + (own_f2_0 (2 : Int32) fr tt f13)) + (own_f2_0 (3 : Int32) fr tt f13)) + (own_f2_0 (4 : Int32) fr tt f13)) + (own_f2_0 (5 : Int32) fr tt f13)))] [])) (fun t k => ?_) ?_
    · show Steps p.tables e below (T20.setTop (mkF m 169 #[.val (.int p0), .val (.long q1), .second, .val (.int p2), .val (.int p3), .val (.ref b1), .val (.int fr), .val (.int tt), .val (.int ((((((own_f2_0 (0 : Int32) fr tt f13) + (own_f2_0 (1 : Int32) fr tt f13)) + (own_f2_0 (2 : Int32) fr tt f13)) + (own_f2_0 (3 : Int32) fr tt f13)) + (own_f2_0 (4 : Int32) fr tt f13)) + (own_f2_0 (5 : Int32) fr tt f13)))] [(.int ((((((own_f2_0 (0 : Int32) fr tt f13) + (own_f2_0 (1 : Int32) fr tt f13)) + (own_f2_0 (2 : Int32) fr tt f13)) + (own_f2_0 (3 : Int32) fr tt f13)) + (own_f2_0 (4 : Int32) fr tt f13)) + (own_f2_0 (5 : Int32) fr tt f13))), (.int (own_f3_0 fr tt f13))])) t
      refine XS.icmpNo X20.here hx rfl (hb hby at_169) rfl (teq hc169).2 ?_
      show Steps p.tables e below (T20.setTop (mkF m 172 #[.val (.int p0), .val (.long q1), .second, .val (.int p2), .val (.int p3), .val (.ref b1), .val (.int fr), .val (.int tt), .val (.int ((((((own_f2_0 (0 : Int32) fr tt f13) + (own_f2_0 (1 : Int32) fr tt f13)) + (own_f2_0 (2 : Int32) fr tt f13)) + (own_f2_0 (3 : Int32) fr tt f13)) + (own_f2_0 (4 : Int32) fr tt f13)) + (own_f2_0 (5 : Int32) fr tt f13)))] [])) t
      exact k
    refine Owe.cast (show (1 : Int32) = (1 : Int32) from (show own_f0_0 f13 fr tt = (1 : Int32) from (by rw [own_f0_0, if_pos hc169])).symm.trans (own_law p0 q1 p2 p3 f13 fr tt H_fr H_tt)) ?_
    refine Owe.ret X20 Bd.notSynchronized (v := (some (.int (1 : Int32)))) (fun h => by rw [Bd.returns] at h; cases h) (fun fs hr => ?_) ⟨rfl, N20⟩ (by decide) (by decide)
    show Steps p.tables e below (T20.setTop (mkF m 172 #[.val (.int p0), .val (.long q1), .second, .val (.int p2), .val (.int p3), .val (.ref b1), .val (.int fr), .val (.int tt), .val (.int ((((((own_f2_0 (0 : Int32) fr tt f13) + (own_f2_0 (1 : Int32) fr tt f13)) + (own_f2_0 (2 : Int32) fr tt f13)) + (own_f2_0 (3 : Int32) fr tt f13)) + (own_f2_0 (4 : Int32) fr tt f13)) + (own_f2_0 (5 : Int32) fr tt f13)))] [])) _
    refine XS.iconst X20.here hx rfl (hb hby at_172) ?_
    show Steps p.tables e below (T20.setTop (mkF m 173 #[.val (.int p0), .val (.long q1), .second, .val (.int p2), .val (.int p3), .val (.ref b1), .val (.int fr), .val (.int tt), .val (.int ((((((own_f2_0 (0 : Int32) fr tt f13) + (own_f2_0 (1 : Int32) fr tt f13)) + (own_f2_0 (2 : Int32) fr tt f13)) + (own_f2_0 (3 : Int32) fr tt f13)) + (own_f2_0 (4 : Int32) fr tt f13)) + (own_f2_0 (5 : Int32) fr tt f13)))] [(.int (1 : Int32))])) _
    refine XS.goto X20.here hx rfl (pc0 := 173) (pc' := 177) rfl (hb hby at_173) (by decide) (by decide) ?_
    show Steps p.tables e below (T20.setTop (mkF m 177 #[.val (.int p0), .val (.long q1), .second, .val (.int p2), .val (.int p3), .val (.ref b1), .val (.int fr), .val (.int tt), .val (.int ((((((own_f2_0 (0 : Int32) fr tt f13) + (own_f2_0 (1 : Int32) fr tt f13)) + (own_f2_0 (2 : Int32) fr tt f13)) + (own_f2_0 (3 : Int32) fr tt f13)) + (own_f2_0 (4 : Int32) fr tt f13)) + (own_f2_0 (5 : Int32) fr tt f13)))] [(.int (1 : Int32))])) _
    exact retN X20 hx (t := .boolean) Bd.returns (by simp) (hb hby at_177) hr
  · refine Owe.step (T' := T20) (g' := (mkF m 176 #[.val (.int p0), .val (.long q1), .second, .val (.int p2), .val (.int p3), .val (.ref b1), .val (.int fr), .val (.int tt), .val (.int ((((((own_f2_0 (0 : Int32) fr tt f13) + (own_f2_0 (1 : Int32) fr tt f13)) + (own_f2_0 (2 : Int32) fr tt f13)) + (own_f2_0 (3 : Int32) fr tt f13)) + (own_f2_0 (4 : Int32) fr tt f13)) + (own_f2_0 (5 : Int32) fr tt f13)))] [])) (fun t k => ?_) ?_
    · show Steps p.tables e below (T20.setTop (mkF m 169 #[.val (.int p0), .val (.long q1), .second, .val (.int p2), .val (.int p3), .val (.ref b1), .val (.int fr), .val (.int tt), .val (.int ((((((own_f2_0 (0 : Int32) fr tt f13) + (own_f2_0 (1 : Int32) fr tt f13)) + (own_f2_0 (2 : Int32) fr tt f13)) + (own_f2_0 (3 : Int32) fr tt f13)) + (own_f2_0 (4 : Int32) fr tt f13)) + (own_f2_0 (5 : Int32) fr tt f13)))] [(.int ((((((own_f2_0 (0 : Int32) fr tt f13) + (own_f2_0 (1 : Int32) fr tt f13)) + (own_f2_0 (2 : Int32) fr tt f13)) + (own_f2_0 (3 : Int32) fr tt f13)) + (own_f2_0 (4 : Int32) fr tt f13)) + (own_f2_0 (5 : Int32) fr tt f13))), (.int (own_f3_0 fr tt f13))])) t
      refine XS.icmpYes X20.here hx rfl (pc0 := 169) (pc' := 176) rfl (hb hby at_169) rfl (feq hc169).2 (by decide) (by decide) ?_
      show Steps p.tables e below (T20.setTop (mkF m 176 #[.val (.int p0), .val (.long q1), .second, .val (.int p2), .val (.int p3), .val (.ref b1), .val (.int fr), .val (.int tt), .val (.int ((((((own_f2_0 (0 : Int32) fr tt f13) + (own_f2_0 (1 : Int32) fr tt f13)) + (own_f2_0 (2 : Int32) fr tt f13)) + (own_f2_0 (3 : Int32) fr tt f13)) + (own_f2_0 (4 : Int32) fr tt f13)) + (own_f2_0 (5 : Int32) fr tt f13)))] [])) t
      exact k
    refine Owe.cast (show (0 : Int32) = (1 : Int32) from (show own_f0_0 f13 fr tt = (0 : Int32) from (by rw [own_f0_0, if_neg hc169])).symm.trans (own_law p0 q1 p2 p3 f13 fr tt H_fr H_tt)) ?_
    refine Owe.ret X20 Bd.notSynchronized (v := (some (.int (0 : Int32)))) (fun h => by rw [Bd.returns] at h; cases h) (fun fs hr => ?_) ⟨rfl, N20⟩ (by decide) (by decide)
    show Steps p.tables e below (T20.setTop (mkF m 176 #[.val (.int p0), .val (.long q1), .second, .val (.int p2), .val (.int p3), .val (.ref b1), .val (.int fr), .val (.int tt), .val (.int ((((((own_f2_0 (0 : Int32) fr tt f13) + (own_f2_0 (1 : Int32) fr tt f13)) + (own_f2_0 (2 : Int32) fr tt f13)) + (own_f2_0 (3 : Int32) fr tt f13)) + (own_f2_0 (4 : Int32) fr tt f13)) + (own_f2_0 (5 : Int32) fr tt f13)))] [])) _
    refine XS.iconst X20.here hx rfl (hb hby at_176) ?_
    show Steps p.tables e below (T20.setTop (mkF m 177 #[.val (.int p0), .val (.long q1), .second, .val (.int p2), .val (.int p3), .val (.ref b1), .val (.int fr), .val (.int tt), .val (.int ((((((own_f2_0 (0 : Int32) fr tt f13) + (own_f2_0 (1 : Int32) fr tt f13)) + (own_f2_0 (2 : Int32) fr tt f13)) + (own_f2_0 (3 : Int32) fr tt f13)) + (own_f2_0 (4 : Int32) fr tt f13)) + (own_f2_0 (5 : Int32) fr tt f13)))] [(.int (0 : Int32))])) _
    exact retN X20 hx (t := .boolean) Bd.returns (by simp) (hb hby at_177) hr
set_option maxRecDepth 65536 in
set_option maxHeartbeats 40000000 in
theorem comes_1 {Post : Tables → Env → Array Value → State → Outcome → State → Prop} (hpost : ∀ tb e args s v u, (limb_1_1.after args s (.returned v) u = true ∧ limb_1_2.after args s (.returned v) u = true ∧ True) → FrameEnd s (.returned v) u (Jvm.fieldLocs frame_1_writes args s ++ Jvm.arrayLocs frame_1_arrays args s ++ Jvm.staticLocs frame_1_statics s) 16 128 → Post tb e args s (.returned v) u) :
    ArmFor flags0 classFile x code maxLocals ret World_1 tables_1 room_1 Calls_1 rest_1 Pre_1 Post := by
  intro l hfl _ _ p e ha hc hk s m args below hf hA hF happ hP
  obtain ⟨hcalls, hrest, hpre⟩ := hP
  obtain ⟨-, -, -, hnamed, -, -, -, hat⟩ := (Spec.applies_iff hf).mp happ
  obtain ⟨hg, hn⟩ := and_e (Cond.before_iff.mp (show (Jvm.Cond.and given_1 narrow_1).before args s = true from hpre))
  obtain ⟨ga1, gb1⟩ := and_e hg
  obtain ⟨ga2, gb2⟩ := and_e gb1
  obtain ⟨ga3, gb3⟩ := and_e gb2
  obtain ⟨ga4, gb4⟩ := and_e gb3
  obtain ⟨w0, w1, w2, w3, rfl⟩ : ∃ w0 w1 w2 w3 : Value, args = #[w0, w1, w2, w3] := by
    have hs : args.size = 4 := by simpa [Cond.value, given_1] using ga1
    obtain ⟨L⟩ := args
    match L, hs with
    | [w0, w1, w2, w3], _ => exact ⟨w0, w1, w2, w3, rfl⟩
  have hw := fun d (hd : d ∈ tables_1) => atoms_spec (ws := Jvm.Cond.code x code maxLocals ret :: tables_1) hat d (List.mem_cons_of_mem _ hd)
  obtain ⟨i0, ei0⟩ := is_v ga2
  obtain rfl : w0 = (.int i0) := Option.some.inj ei0
  obtain ⟨i1, ei1⟩ := isL_v ga3
  obtain rfl : w1 = (.long i1) := Option.some.inj ei1
  obtain ⟨i2, ei2⟩ := is_v ga4
  obtain rfl : w2 = (.int i2) := Option.some.inj ei2
  obtain ⟨i3, ei3⟩ := is_v gb4
  obtain rfl : w3 = (.int i3) := Option.some.inj ei3
  obtain ⟨n, o, h1, h2, h3, _, L, rfl, ⟨rfl, N⟩, hq⟩ := own_rm0 l s _ hw tables_1 i0 i1 i2 i3 s.heap s.heap.size (Nat.le_refl _) p e ha hc hk s m _ below hf ((Spec.applies_iff_loose hf).mp happ).1 ⟨rfl, State.Warmed39.refl s, rfl⟩ trivial
  refine ⟨n, _, h1, h2, h3, hpost _ _ _ _ _ _ ⟨Cond.after_iff.mpr rfl, Cond.after_iff.mpr (eq_i res_at (Term.int_eval (1)) rfl), trivial⟩ ⟨hq.1, hq.2.1, (hq.2.2.sift fun y hy => Or.inr (N y hy)).mono (by decide) (by decide)⟩⟩
theorem main_1_1 : Claimed_1_1 := comes_1 fun _ _ _ _ _ _ h hF => ⟨h.1, hF⟩
theorem main_1_2 : Claimed_1_2 := comes_1 fun _ _ _ _ _ _ h hF => ⟨h.2.1, hF⟩
end Jvm.Pilot.@@N@@
namespace Jvm.Pilot.@@N@@
open Jvm Jvm.ClassFile Sem Op Lib Jvm.Free Jvm.Stand Jvm.Pilot.@@N@@.Jvm.D
/-! MADE BY PROGRAM (witnessworld.py) out of the Statement's table words and the real class files: 9 classes; the members and pool entries that the words name. The judged class is class 1, her method 1. -/
namespace start1
open Jvm.ClassFile
def u (s : String) : CpInfo := .utf8 (stringToUtf16 s)
/-- a pool by its gaps: so many unusable entries, then the entry; so many at the end -/
def gap : Nat → List CpInfo → List CpInfo
  | 0, r => r
  | n + 1, r => .unusable :: gap n r
def poolList (es : List (Nat × CpInfo)) (last : Nat) : List CpInfo := es.foldr (fun e r => gap e.1 (e.2 :: r)) (gap last [])
def pool (es : List (Nat × CpInfo)) (last : Nat) : Array CpInfo := ⟨poolList es last⟩
def fileOf (pool : Array CpInfo) (this : Nat) (attrs : Array Attribute := #[]) (ms : Array MethodInfo := #[]) (fl : Nat := 33) (sup : Nat := 0) (ifs : Array Nat := #[]) (fds : Array FieldInfo := #[]) : ClassFile where
  minorVersion := 0
  majorVersion := 65
  constantPool := pool
  accessFlags := fl
  thisClass := this
  superClass := sup
  interfaces := ifs
  fields := fds
  methods := ms
  attributes := attrs
def plain (name : String) (sup : Option ClassId) : Class where
  name := name
  kind := .ordinary
  loader := none
  accessFlags := 33
  super := sup
  interfaces := #[]
  cf := none
  fields := #[]
  methods := #[]
  instanceTypes := #[]
  staticTypes := #[]
  resolved := #[]
  callSites := []
  init := .initialized
  statics := none
  mirror := none

def pool0 : Array CpInfo := pool [(5, u "<init>"), (0, u "()V"), (1, .class_ 10), (1, u "java/lang/Object")] 113

def k0m0 : Method := { name := "<init>", desc := "()V", sig := { parameters := [], returnType := none }, accessFlags := 1, code := none }
/-- java/lang/Object -/
def k0 : Class := { plain "java/lang/Object" none with
  accessFlags := 33
  interfaces := #[]
  cf := some (fileOf pool0 8 #[] #[{ accessFlags := 1, nameIndex := 5, descriptorIndex := 6, attributes := #[] }] 33 0 #[] #[])
  fields := #[]
  methods := #[k0m0]
  instanceTypes := #[]
  staticTypes := #[]
  resolved := Array.replicate 124 none
  statics := none }

def pool1 : Array CpInfo := pool [(2, .class_ 4), (1, u "java/lang/Object"), (0, u "<init>"), (0, u "()V"), (0, .methodref 8 9), (0, .class_ 10), (0, .nameAndType 11 12), (0, u "com/example/swapscribe/swapscribe/input/TextFileLineEndsPinLaw"), (0, u "pick"), (0, u "(IJI)B"), (0, .integer 2147483647), (0, .methodref 8 15), (0, .nameAndType 16 17), (0, u "at"), (0, u "([BIII)I"), (0, .methodref 19 20), (0, .class_ 21), (0, .nameAndType 22 23), (0, u "com/example/swapscribe/swapscribe/input/TextFile"), (0, u "lineEnds"), (0, u "([BII)I"), (2, u "law"), (0, u "(IJII)Z")] 5

def k1m0 : Method := { name := "<init>", desc := "()V", sig := { parameters := [], returnType := none }, accessFlags := 1, code := none }
def k1c1 : Code := { maxStack := 6, maxLocals := 9, code := code, exceptionTable := #[], attributes := #[] }
def k1m1 : Method := { name := "law", desc := "(IJII)Z", sig := { parameters := [.int, .long, .int, .int], returnType := some .boolean }, accessFlags := 9, code := some k1c1 }
def k1c2 : Code := { maxStack := 4, maxLocals := 5, code := method_3_code, exceptionTable := #[], attributes := #[] }
def k1m2 : Method := { name := "pick", desc := "(IJI)B", sig := { parameters := [.int, .long, .int], returnType := some .byte }, accessFlags := 10, code := some k1c2 }
def k1c3 : Code := { maxStack := 3, maxLocals := 5, code := method_4_code, exceptionTable := #[], attributes := #[] }
def k1m3 : Method := { name := "at", desc := "([BIII)I", sig := { parameters := [(.array .byte), .int, .int, .int], returnType := some .int }, accessFlags := 10, code := some k1c3 }
/-- com/example/swapscribe/swapscribe/input/TextFileLineEndsPinLaw -/
def k1 : Class := { plain "com/example/swapscribe/swapscribe/input/TextFileLineEndsPinLaw" (some 0) with
  accessFlags := 49
  interfaces := #[]
  cf := some (fileOf pool1 8 #[] #[{ accessFlags := 1, nameIndex := 5, descriptorIndex := 6, attributes := #[] }, { accessFlags := 9, nameIndex := 26, descriptorIndex := 27, attributes := #[] }, { accessFlags := 10, nameIndex := 11, descriptorIndex := 12, attributes := #[] }, { accessFlags := 10, nameIndex := 16, descriptorIndex := 17, attributes := #[] }] 49 2 #[] #[])
  fields := #[]
  methods := #[k1m0, k1m1, k1m2, k1m3]
  instanceTypes := #[]
  staticTypes := #[]
  resolved := Array.replicate 33 none
  statics := none }

def pool2 : Array CpInfo := pool [(2, .class_ 4), (1, u "java/lang/Object"), (0, u "<init>"), (0, u "()V"), (1, .class_ 10), (1, u "com/example/swapscribe/swapscribe/input/TextFile"), (30, u "([BII)I"), (2, u "lineEnds"), (31, u "MARK_LENGTH"), (0, u "I"), (2, u "BYTE_ORDER_MARK"), (0, u "[B"), (85, u "WELL_FORMED"), (2, u "NOT_UTF8"), (0, u "Ljava/lang/String;"), (0, u "CR"), (0, u "B"), (1, u "LF")] 30

def k2m0 : Method := { name := "<init>", desc := "()V", sig := { parameters := [], returnType := none }, accessFlags := 2, code := none }
def k2c1 : Code := { maxStack := 3, maxLocals := 6, code := prog_15_method_7_code, exceptionTable := #[], attributes := #[] }
def k2m1 : Method := { name := "lineEnds", desc := "([BII)I", sig := { parameters := [(.array .byte), .int, .int], returnType := some .int }, accessFlags := 8, code := some k2c1 }
/-- com/example/swapscribe/swapscribe/input/TextFile -/
def k2 : Class := { plain "com/example/swapscribe/swapscribe/input/TextFile" (some 0) with
  accessFlags := 32
  interfaces := #[]
  cf := some (fileOf pool2 8 #[] #[{ accessFlags := 2, nameIndex := 5, descriptorIndex := 6, attributes := #[] }, { accessFlags := 8, nameIndex := 44, descriptorIndex := 41, attributes := #[] }] 32 2 #[] #[{ accessFlags := 26, nameIndex := 80, descriptorIndex := 81, attributes := #[] }, { accessFlags := 24, nameIndex := 76, descriptorIndex := 77, attributes := #[] }, { accessFlags := 24, nameIndex := 167, descriptorIndex := 77, attributes := #[] }, { accessFlags := 24, nameIndex := 170, descriptorIndex := 171, attributes := #[] }, { accessFlags := 26, nameIndex := 172, descriptorIndex := 173, attributes := #[] }, { accessFlags := 26, nameIndex := 175, descriptorIndex := 173, attributes := #[] }])
  fields := #[{ name := "BYTE_ORDER_MARK", type := (.array .byte), accessFlags := 26, slot := 0, constantValue := 0 }, { name := "MARK_LENGTH", type := .int, accessFlags := 24, slot := 1, constantValue := 0 }, { name := "WELL_FORMED", type := .int, accessFlags := 24, slot := 2, constantValue := 0 }, { name := "NOT_UTF8", type := (.object "java/lang/String"), accessFlags := 24, slot := 3, constantValue := 0 }, { name := "CR", type := .byte, accessFlags := 26, slot := 4, constantValue := 0 }, { name := "LF", type := .byte, accessFlags := 26, slot := 5, constantValue := 0 }]
  methods := #[k2m0, k2m1]
  instanceTypes := #[]
  staticTypes := #[(.array .byte), .int, .int, (.object "java/lang/String"), .byte, .byte]
  resolved := Array.replicate 206 none
  statics := none }

def pool3 : Array CpInfo := pool [(1, u "java/lang/Cloneable"), (0, .class_ 1), (0, u "java/lang/Object"), (0, .class_ 3)] 3

/-- java/lang/Cloneable -/
def k3 : Class := { plain "java/lang/Cloneable" (some 0) with
  accessFlags := 1537
  interfaces := #[]
  cf := some (fileOf pool3 2 #[] #[] 1537 4 #[] #[])
  fields := #[]
  methods := #[]
  instanceTypes := #[]
  staticTypes := #[]
  resolved := Array.replicate 8 none
  statics := none }

def pool4 : Array CpInfo := pool [(1, u "java/io/Serializable"), (0, .class_ 1), (0, u "java/lang/Object"), (0, .class_ 3)] 3

/-- java/io/Serializable -/
def k4 : Class := { plain "java/io/Serializable" (some 0) with
  accessFlags := 1537
  interfaces := #[]
  cf := some (fileOf pool4 2 #[] #[] 1537 4 #[] #[])
  fields := #[]
  methods := #[]
  instanceTypes := #[]
  staticTypes := #[]
  resolved := Array.replicate 8 none
  statics := none }

/-- the primitive byte -/
def k5 : Class := { plain "byte" none with kind := .primitive 'B', accessFlags := 0x411 }
/-- [B -/
def k6 : Class := { plain "[B" (some 0) with kind := .array 5 .byte, interfaces := #[3, 4], accessFlags := 1041 }

/-- the primitive int -/
def k7 : Class := { plain "int" none with kind := .primitive 'I', accessFlags := 0x411 }
/-- [I -/
def k8 : Class := { plain "[I" (some 0) with kind := .array 7 .int, interfaces := #[3, 4], accessFlags := 1041 }

def heap : Heap := #[]
def classes : Array Class := #[k0, k1, k2, k3, k4, k5, k6, k7, k8]
def interned : List (Array UInt16 × Addr) := []
def slotsUsed : Nat := 0
def theMethod : MethodId := ⟨1, 1⟩
def args0 : Array Value := #[.int 5, .long 7, .int 9, .int 11]
def aboutOver (below : List Frame) : State where
  vm := { classes := classes, interned := interned.toArray }
  heap := heap
  slotsUsed := slotsUsed
  threads := #[{ frames := .invoking theMethod args0 :: below }]
def below0 : List Frame := [.native { method := ⟨0, 0⟩, args := #[] }]
def about1 : State := aboutOver below0
def p0 : Program := .bare "" "" ""
def e0 : Env := launch0.env 0 0 0
theorem w_frames : about1.frames = Frame.invoking theMethod args0 :: below0 := rfl
set_option maxRecDepth 65536 in
theorem w_args : argsFit about1.vm theMethod args0 = true := by decide +kernel
set_option maxRecDepth 65536 in
theorem w_heap : heapFits about1 = true := by decide +kernel
set_option maxRecDepth 65536 in
theorem w_runnable : about1.curStatus? = some .runnable := by decide +kernel
set_option maxRecDepth 65536 in
theorem w_alone : about1.alone = true := by decide +kernel
set_option maxRecDepth 65536 in
theorem w_named : about1.methodNamed? x = some theMethod := by decide +kernel
set_option maxRecDepth 65536 in
theorem w_hears : about1.hears theMethod below0 = true := by decide +kernel
set_option maxRecDepth 65536 in
theorem w_ripe : about1.ripe theMethod args0 below0 = true := by decide +kernel
theorem w_running : about1.status = .running := rfl
set_option maxRecDepth 65536 in
theorem w_room : about1.hasRoom e0.platform room_1 = true :=
  launch0.hasRoom_least _ room_1 (by decide +kernel) (by decide +kernel) (by decide +kernel) (by decide +kernel) (by decide +kernel) (by decide +kernel)
theorem allAtoms_all (ts : List Jvm.Cond) (a : Array Jvm.Value) (st : Jvm.State) : (allAtoms ts).before a st = ts.all (fun c => c.before a st) := by
  induction ts with
  | nil => rfl
  | cons c t ih =>
    show (Jvm.Cond.and c (allAtoms t)).before a st = _
    rw [Jvm.Cond.before_and, ih, List.all_cons]
def words1 : List Jvm.Cond := Jvm.Cond.code x code maxLocals ret :: tables_1
/-- a 'code' word, met by the world's own term for the bytes: nothing is compared byte by byte -/
theorem code_word {y : MethodName} {bytes : ByteArray} {mx : Nat} {rt : Option FieldType} {a : Array Value} {s : State} {m : MethodId} {meth : Method} {c : Code} (h1 : s.methodNamed? y = some m) (h2 : s.vm.method? m = some meth) (h3 : meth.code = some c) (h4 : c.code = bytes)
    (h5 : (c.maxLocals == mx && c.exceptionTable.isEmpty && decide (c.maxStack ≤ mostOperands) && decide (meth.sig.returnType = rt) && !meth.locks && decide (parseMethodDescriptor y.desc = some meth.sig)) = true) : (Jvm.Cond.code y bytes mx rt).before a s = true := by
  simp only [Bool.and_eq_true, beq_iff_eq, Bool.not_eq_true', decide_eq_true_eq] at h5
  obtain ⟨⟨⟨⟨⟨g1, g2⟩, g3⟩, g4⟩, g5⟩, g6⟩ := h5
  simp [Cond.before, Cond.holds, Cond.value, h1, h2, h3, h4, g1, g2, g3, g4, g5, g6]
def isCode : Jvm.Cond → Bool
  | .code _ _ _ _ => true
  | _ => false
theorem all_split {L : List Jvm.Cond} {P : Jvm.Cond → Bool} (h1 : L.all (fun c => isCode c || P c) = true) (h2 : ∀ c ∈ L.filter isCode, P c = true) : L.all P = true := by
  refine List.all_eq_true.mpr fun c hc => ?_
  have h := List.all_eq_true.mp h1 c hc
  rcases Bool.eq_false_or_eq_true (isCode c) with hi | hi
  · exact h2 c (List.mem_filter.mpr ⟨hc, hi⟩)
  · simpa [hi] using h
set_option maxRecDepth 65536 in
theorem w_c0 : (Jvm.Cond.code x code maxLocals ret).before args0 about1 = true := code_word (m := ⟨1, 1⟩) (meth := k1m1) (c := k1c1) (by decide +kernel) rfl rfl rfl (by decide +kernel)
set_option maxRecDepth 65536 in
theorem w_c1 : (Jvm.Cond.code ({ cls := "com/example/swapscribe/swapscribe/input/TextFileLineEndsPinLaw", name := "pick", desc := "(IJI)B" } : Jvm.MethodName) method_3_code (5 : Nat) (Option.some Jvm.ClassFile.FieldType.byte)).before args0 about1 = true := code_word (m := ⟨1, 2⟩) (meth := k1m2) (c := k1c2) (by decide +kernel) rfl rfl rfl (by decide +kernel)
set_option maxRecDepth 65536 in
theorem w_c2 : (Jvm.Cond.code ({ cls := "com/example/swapscribe/swapscribe/input/TextFileLineEndsPinLaw", name := "at", desc := "([BIII)I" } : Jvm.MethodName) method_4_code (5 : Nat) (Option.some Jvm.ClassFile.FieldType.int)).before args0 about1 = true := code_word (m := ⟨1, 3⟩) (meth := k1m3) (c := k1c3) (by decide +kernel) rfl rfl rfl (by decide +kernel)
set_option maxRecDepth 65536 in
theorem w_c3 : (Jvm.Cond.code ({ cls := "com/example/swapscribe/swapscribe/input/TextFile", name := "lineEnds", desc := "([BII)I" } : Jvm.MethodName) prog_15_method_7_code (6 : Nat) (Option.some Jvm.ClassFile.FieldType.int)).before args0 about1 = true := code_word (m := ⟨2, 1⟩) (meth := k2m1) (c := k2c1) (by decide +kernel) rfl rfl rfl (by decide +kernel)
def codes1 : List Jvm.Cond := [Jvm.Cond.code x code maxLocals ret, Jvm.Cond.code ({ cls := "com/example/swapscribe/swapscribe/input/TextFileLineEndsPinLaw", name := "pick", desc := "(IJI)B" } : Jvm.MethodName) method_3_code (5 : Nat) (Option.some Jvm.ClassFile.FieldType.byte), Jvm.Cond.code ({ cls := "com/example/swapscribe/swapscribe/input/TextFileLineEndsPinLaw", name := "at", desc := "([BIII)I" } : Jvm.MethodName) method_4_code (5 : Nat) (Option.some Jvm.ClassFile.FieldType.int), Jvm.Cond.code ({ cls := "com/example/swapscribe/swapscribe/input/TextFile", name := "lineEnds", desc := "([BII)I" } : Jvm.MethodName) prog_15_method_7_code (6 : Nat) (Option.some Jvm.ClassFile.FieldType.int)]
set_option maxRecDepth 65536 in
theorem codes_eq : words1.filter isCode = codes1 := rfl
theorem w_codes : ∀ c ∈ words1.filter isCode, c.before args0 about1 = true := by
  rw [codes_eq]
  intro c hc
  simp only [codes1, List.mem_cons, List.not_mem_nil, or_false] at hc
  rcases hc with rfl | rfl | rfl | rfl
  · exact w_c0
  · exact w_c1
  · exact w_c2
  · exact w_c3
set_option maxRecDepth 65536 in
theorem w_t1 : words1.all (fun c => isCode c || c.before args0 about1) = true := by decide +kernel
theorem w_tables : (allAtoms (Jvm.Cond.code x code maxLocals ret :: tables_1)).before args0 about1 = true := by
  rw [allAtoms_all]
  show words1.all (fun c => c.before args0 about1) = true
  refine all_split ?_ w_codes
  rw [w_t1]
set_option maxRecDepth 65536 in
theorem w_case : (Jvm.Cond.and given_1 narrow_1).before args0 about1 = true := by decide +kernel
theorem w_applies : (headSpec (Jvm.Cond.code x code maxLocals ret :: tables_1) room_1).applies x e0.platform about1 = true :=
  (Spec.applies_iff w_frames).mpr ⟨w_running, w_runnable, w_alone, w_named, w_hears, w_ripe, w_room, w_tables⟩
theorem atStart : AtStart classFile x code maxLocals ret World_1 tables_1 room_1 Calls_1 rest_1 Pre_1 launch0 p0 e0 about1 theMethod args0 below0 :=
  ⟨lists_1, trivial, launch0.admits_env _ _ _, launch0.least_env, fairChoices_fair.cas, fairChoices_fair.clock, w_frames, w_args, w_heap, w_applies, trivial, trivial, w_case⟩
end start1
theorem witness_1 : WitnessClaimed_1 := ⟨start1.p0, start1.e0, start1.about1, start1.theMethod, start1.args0, start1.below0, start1.atStart⟩
end Jvm.Pilot.@@N@@
